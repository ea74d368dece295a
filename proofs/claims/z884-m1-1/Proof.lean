import JvmDerived
import JvmDerived.Pilot.@@N@@Statement
import JvmDerived.Pilot.@@N@@Code
set_option linter.unusedVariables false
set_option linter.unusedSimpArgs false
namespace Jvm.RoadKit
open Sem ClassFile Op Lib Jvm.Stand Jvm.Free Jvm.LawKit
section New
variable {p : Program} {l : Launch} {e : Env} {R : Room} {s : State} {m : MethodId} {args : Array Value} {below : List Frame} {meth : Method} {c : Code} {T : State} {locs : List Loc} {cells slots : Nat}
theorem retI (X : Stand p l e R s m args below meth c T locs cells slots) (hx : p.tables.exec = Jvm.exec) {pc : Nat} {Ls : Array Slot} {z : Int32} {rest : List Value} (hret : meth.sig.returnType = some .int) (hd : decode c.code pc = .ok (.ireturn, 1)) {fs : List Frame}
    (hl : ∀ (f : JFrame) (acts : List Action), f.method = m → f.locked = none → f.entered = [] → (doReturn e (T.setTop f) acts (some (.int z))).1 = T.setFrames fs) : Steps p.tables e below (T.setTop (mkF m pc Ls (.int z :: rest))) (T.setFrames fs) := by
  have hm' : T.vm.method? m = some meth := X.method'
  have hn : narrow .int (.int z) = .int z := rfl
  show Steps p.tables e below (T.setTop { method := m, pc := pc, locals := Ls, stack := _ :: rest, locked := none }) _
  jvm_step X.here [X.here.top, hx, hd, hm', hret, hn]
  first | (intro acts; rw [hl _ acts rfl rfl rfl]) | rw [hl _ _ rfl rfl rfl]
  exact Steps.refl _
end New
end Jvm.RoadKit
namespace Jvm.Pilot.@@N@@
open Jvm Jvm.ClassFile Sem Op Lib Jvm.Free Jvm.Stand Jvm.LawKit Jvm.RoadKit Bundle Jvm.Pilot.@@N@@.Jvm.D
/-! my own layer: all goals of a walk have one shape -/
section Own
variable {p : Program} {l : Launch} {e : Env} {R : Room} {s : State} {m : MethodId} {args : Array Value} {below : List Frame} {meth : Method} {c : Code} {T : State} {locs : List Loc} {cells slots : Nat} {Q : Option Value → Heap → List Loc → Prop} {nc ns : Nat} {A B : State}
/-- from A the method comes to its end, with Q of what it returns, of the heap and of the places written -/
def own_Go (p : Program) (e : Env) (below : List Frame) (s : State) (Q : Option Value → Heap → List Loc → Prop) (nc ns : Nat) (A : State) : Prop :=
  ∃ s₂ o, Steps p.tables e below A s₂ ∧ s₂.status = .running ∧ Ended s₂ below o ∧ ∃ v L, o = .returned v ∧ Q v s₂.heap L ∧ FrameEnd s o s₂ L nc ns
theorem own_go (k : ∀ t, Steps p.tables e below B t → Steps p.tables e below A t) (h : own_Go p e below s Q nc ns B) : own_Go p e below s Q nc ns A := by
  obtain ⟨t, o, h1, h2⟩ := h
  exact ⟨t, o, k t h1, h2⟩
theorem own_end (X : Stand p l e R s m args below meth c T locs cells slots) {v : Option Value} (hv : meth.sig.returnType = none → v = none) (hlk : meth.locks = false) (hq : Q v T.heap locs) (hc : cells ≤ nc) (hs : slots ≤ ns)
    (hst : ∀ fs, (∀ (f : JFrame) (acts : List Action), f.method = m → f.locked = none → f.entered = [] → (doReturn e (T.setTop f) acts v).1 = T.setFrames fs) → Steps p.tables e below A (T.setFrames fs)) : own_Go p e below s Q nc ns A := by
  obtain ⟨fs, hr, hrun, hended, hW, hsame⟩ := X.leave (v := v) hv hlk
  exact ⟨_, _, hst fs hr, hrun, hended, v, locs, rfl, hq, ⟨_, rfl⟩, hW, hsame.mono hc hs⟩
theorem own_wide {cells' slots' : Nat} (X : Stand p l e R s m args below meth c T locs cells slots) (hc : cells ≤ cells') (hs : slots ≤ slots') : Stand p l e R s m args below meth c T locs cells' slots' :=
  { X with same := X.same.mono hc hs }
theorem own_lrem {tb : Tables} [Ours tb] {target : State} {g : JFrame} (h : At T m c below) (hx : tb.exec = Jvm.exec) (hg : g.method = m) {x y : Int64} {rest : List Value} (hd : decode c.code g.pc = .ok (.lrem, 1)) (hs : g.stack = .long y :: .long x :: rest) (hy : y ≠ 0)
    (hr : Steps tb e below (T.setTop { g with pc := g.pc + 1, stack := .long (x % y) :: rest }) target) : Steps tb e below (T.setTop g) target :=
  XS.lrem h hx hg hd hs hy (by rw [lrem_mod]; exact hr)
end Own
section Own2
variable {Z s : State} {a0 args : Array Value} {h : Heap} {a b : Addr} {C : String} {c : Cell} {ty : FieldType}
theorem own_selP {y : MethodName} {n : Nat} (hZ : Z.Warmed39 s.vm) (wi : (Jvm.Cond.instantiable y.cls n).before a0 Z = true) (w2 : (Jvm.Cond.instanceMethod y).before a0 Z = true) (w3 : (Jvm.Cond.privateMethod y).before a0 Z = true)
    (hy : y.cls ≠ "java/lang/invoke/MethodHandle" ∧ y.cls ≠ "java/lang/invoke/VarHandle" := by decide) : (Jvm.Cond.selects y.cls y y).before args s = true := by
  have wi' : (Jvm.Cond.instantiable y.cls n).before args s = true := mvT hZ wi
  obtain ⟨c, k, h1, h2, -, h4, -⟩ := Cond.instantiable_spec wi'
  have h5 : k.isInterface = false := by
    cases hk : k.isInterface
    · rfl
    · rw [hk] at h4; simp at h4
  exact selects_self_of_private h1 h2 h5 (Cond.privateMethod_at (mvP hZ w3 (args := #[]))) (mvT hZ w2) hy
theorem own_neA {n : Nat} (F : Exa Z h a C) (wi : (Jvm.Cond.instantiable C n).before a0 Z = true) (G : ∃ c, Arr Z h b c ty) : a ≠ b := by
  obtain ⟨c, G⟩ := G
  exact ne_arr F wi G
end Own2
def own_in (p1 : Int32) (p2 : Int32) (p3 : Int32) : Int32 := if p1 < p2 then (0 : Int32) else if p3 < p1 then (0 : Int32) else (1 : Int32)
def Q_rm1 (Z : State) (p1 : Int32) (p2 : Int32) (p3 : Int32) (h0 : Heap) (n0 : Nat) (v : Option Value) (h : Heap) (L : List Loc) : Prop := v = some (.int (own_in p1 p2 p3)) ∧ Fr n0 L ∧ h = h0
theorem own_pn0 : plainName "com/example/attlist/attlist/XmlCharsIsCharPinLaw" = true := by first | (simp [plainName, overriddenIn]; done) | decide +kernel
theorem d1_0 : decode method_2_code 0 = .ok (.iload_n 1, 1) := by decide +kernel
theorem d1_1 : decode method_2_code 1 = .ok (.iload_n 0, 1) := by decide +kernel
theorem d1_2 : decode method_2_code 2 = .ok (.if_icmp .gt 12, 3) := by decide +kernel
theorem d1_5 : decode method_2_code 5 = .ok (.iload_n 0, 1) := by decide +kernel
theorem d1_6 : decode method_2_code 6 = .ok (.iload_n 2, 1) := by decide +kernel
theorem d1_7 : decode method_2_code 7 = .ok (.if_icmp .gt 7, 3) := by decide +kernel
theorem d1_10 : decode method_2_code 10 = .ok (.iconst 1, 1) := by decide +kernel
theorem d1_11 : decode method_2_code 11 = .ok (.goto 4, 3) := by decide +kernel
theorem d1_14 : decode method_2_code 14 = .ok (.iconst 0, 1) := by decide +kernel
theorem d1_15 : decode method_2_code 15 = .ok (.ireturn, 1) := by decide +kernel
set_option maxRecDepth 65536 in
set_option maxHeartbeats 40000000 in
theorem rm1 (l : Launch) (Z : State) (a0 : Array Value) (hw : ∀ d ∈ tables_1, d.before a0 Z = true) (ws : List Jvm.Cond) (p1 : Int32) (p2 : Int32) (p3 : Int32) (h0 : Heap) (n0 : Nat) (Z0 : n0 ≤ h0.size)  :
    MetFree l (⟨"com/example/attlist/attlist/XmlCharsIsCharPinLaw", "in", "(III)Z"⟩ : MethodName) (head1 (Jvm.Cond.code (⟨"com/example/attlist/attlist/XmlCharsIsCharPinLaw", "in", "(III)Z"⟩ : MethodName) method_2_code 3 (some .boolean) :: ws) ({ frames := 0, cells := 0, slots := 0, locals := 0 } : Room)) (fun aa U => aa = #[(.int p1), (.int p2), (.int p3)] ∧ Z.Warmed39 U.vm ∧ U.heap = h0) (fun _ _ _ _ _ => True) (fun _ U o U' => ∃ v L, o = .returned v ∧ Q_rm1 Z p1 p2 p3 h0 n0 v U'.heap L ∧ FrameEnd U o U' L ({ frames := 0, cells := 0, slots := 0, locals := 0 } : Room).cells ({ frames := 0, cells := 0, slots := 0, locals := 0 } : Room).slots) := by
  refine MetFree.of_bodySF (plainFor_of_name own_pn0) hisR ?_
  intro p e s m args below meth c s₁ Bd hml0 hP hK
  obtain ⟨rfl, hZ, hh⟩ := hP
  have hx := Bd.exec
  have hby := Bd.bytes
  have hml : c.maxLocals = 3 := hml0
  have hlk : meth.locks = false := BodyLoose.notSynchronized Bd
  have hown : s.vm.findClass "com/example/attlist/attlist/XmlCharsIsCharPinLaw" = some m.cls := findClass_of_methodNamed Bd.named
  have hnm := (name_of_methodNamed Bd.named Bd.method).1
  have X0 : Stand p l e ({ frames := 0, cells := 0, slots := 0, locals := 0 } : Room) s m #[(.int p1), (.int p2), (.int p3)] below meth c s₁ [] 0 0 := Stand.of_body Bd
  have e0 : s₁.heap = h0 := by rw [← hh, Bd.state]; rfl
  have N0 := Fr.nil n0
  show own_Go p e below s (Q_rm1 Z p1 p2 p3 h0 n0) 0 0 (s₁.setTop (entryFrame m #[(.int p1), (.int p2), (.int p3)] 3))
  refine own_go (B := s₁.setTop (mkF m 0 #[.val (.int p1), .val (.int p2), .val (.int p3)] [])) (fun tgt cont => (XT.entry rfl).trans cont) ?_
  refine own_go (B := s₁.setTop (mkF m 2 #[.val (.int p1), .val (.int p2), .val (.int p3)] [(.int p1), (.int p2)])) (fun tgt cont => ?_) ?_
  · refine XS.iloadN X0.here hx rfl (hb hby d1_0) rfl ?_
    refine XS.iloadN X0.here hx rfl (hb hby d1_1) rfl ?_
    exact cont
  by_cases hc1 : p1 < p2
  ·
    refine own_go (B := s₁.setTop (mkF m 15 #[.val (.int p1), .val (.int p2), .val (.int p3)] [(.int (0 : Int32))])) (fun tgt cont => ?_) ?_
    · refine XS.icmpYes X0.here hx rfl (pc0 := 2) (pc' := 14) rfl (hb hby d1_2) rfl (XT.ii_gt_t hc1) (by decide) (by decide) ?_
      refine XT.iconstV X0.here hx rfl (0 : Int32) (hb hby d1_14) rfl ?_
      exact cont
    refine own_end X0 (v := some (.int (0 : Int32))) (fun h => by rw [Bd.returns] at h; cases h) hlk ?_ (by decide) (by decide) (fun fs hl => retN X0 hx (t := .boolean) Bd.returns (by simp) (hb hby d1_15) hl)
    exact ⟨(by unfold own_in; first | exact rfl | (simp only [if_pos hc1]; first | done | exact rfl)), N0, e0⟩
  ·
    refine own_go (B := s₁.setTop (mkF m 7 #[.val (.int p1), .val (.int p2), .val (.int p3)] [(.int p3), (.int p1)])) (fun tgt cont => ?_) ?_
    · refine XS.icmpNo X0.here hx rfl (hb hby d1_2) rfl (XT.ii_gt_f hc1) ?_
      refine XS.iloadN X0.here hx rfl (hb hby d1_5) rfl ?_
      refine XS.iloadN X0.here hx rfl (hb hby d1_6) rfl ?_
      exact cont
    by_cases hc2 : p3 < p1
    ·
      refine own_go (B := s₁.setTop (mkF m 15 #[.val (.int p1), .val (.int p2), .val (.int p3)] [(.int (0 : Int32))])) (fun tgt cont => ?_) ?_
      · refine XS.icmpYes X0.here hx rfl (pc0 := 7) (pc' := 14) rfl (hb hby d1_7) rfl (XT.ii_gt_t hc2) (by decide) (by decide) ?_
        refine XT.iconstV X0.here hx rfl (0 : Int32) (hb hby d1_14) rfl ?_
        exact cont
      refine own_end X0 (v := some (.int (0 : Int32))) (fun h => by rw [Bd.returns] at h; cases h) hlk ?_ (by decide) (by decide) (fun fs hl => retN X0 hx (t := .boolean) Bd.returns (by simp) (hb hby d1_15) hl)
      exact ⟨(by unfold own_in; first | exact rfl | (simp only [if_neg hc1, if_pos hc2]; first | done | exact rfl)), N0, e0⟩
    ·
      refine own_go (B := s₁.setTop (mkF m 15 #[.val (.int p1), .val (.int p2), .val (.int p3)] [(.int (1 : Int32))])) (fun tgt cont => ?_) ?_
      · refine XS.icmpNo X0.here hx rfl (hb hby d1_7) rfl (XT.ii_gt_f hc2) ?_
        refine XT.iconstV X0.here hx rfl (1 : Int32) (hb hby d1_10) rfl ?_
        refine XS.goto X0.here hx rfl (pc0 := 11) (pc' := 15) rfl (hb hby d1_11) (by decide) (by decide) ?_
        exact cont
      refine own_end X0 (v := some (.int (1 : Int32))) (fun h => by rw [Bd.returns] at h; cases h) hlk ?_ (by decide) (by decide) (fun fs hl => retN X0 hx (t := .boolean) Bd.returns (by simp) (hb hby d1_15) hl)
      exact ⟨(by unfold own_in; first | exact rfl | (simp only [if_neg hc1, if_neg hc2]; first | done | exact rfl)), N0, e0⟩
def own_ischar (p1 : Int32) (p2 : Int32) : Int32 := if p1 < (32 : Int32) then if p2 = 0 then if p1 = (9 : Int32) then (1 : Int32) else if p1 = (10 : Int32) then (1 : Int32) else if p1 = (13 : Int32) then (1 : Int32) else (0 : Int32) else if 0 < p1 then (1 : Int32) else (0 : Int32) else if (55295 : Int32) < p1 then if p1 < (57344 : Int32) then if p1 < (65536 : Int32) then (0 : Int32) else if (1114111 : Int32) < p1 then (0 : Int32) else (1 : Int32) else if (65533 : Int32) < p1 then if p1 < (65536 : Int32) then (0 : Int32) else if (1114111 : Int32) < p1 then (0 : Int32) else (1 : Int32) else (1 : Int32) else (1 : Int32)
def Q_rm2 (Z : State) (p1 : Int32) (p2 : Int32) (h0 : Heap) (n0 : Nat) (v : Option Value) (h : Heap) (L : List Loc) : Prop := v = some (.int (own_ischar p1 p2)) ∧ Fr n0 L ∧ h = h0
theorem own_pn1 : plainName "com/example/attlist/attlist/XmlChars" = true := by first | (simp [plainName, overriddenIn]; done) | decide +kernel
theorem d2_0 : decode prog_10_method_4_code 0 = .ok (.iload_n 0, 1) := by decide +kernel
theorem d2_1 : decode prog_10_method_4_code 1 = .ok (.bipush 32, 2) := by decide +kernel
theorem d2_3 : decode prog_10_method_4_code 3 = .ok (.if_icmp .ge 46, 3) := by decide +kernel
theorem d2_6 : decode prog_10_method_4_code 6 = .ok (.iload_n 1, 1) := by decide +kernel
theorem d2_7 : decode prog_10_method_4_code 7 = .ok (.ifCond .eq 15, 3) := by decide +kernel
theorem d2_10 : decode prog_10_method_4_code 10 = .ok (.iload_n 0, 1) := by decide +kernel
theorem d2_11 : decode prog_10_method_4_code 11 = .ok (.ifCond .le 7, 3) := by decide +kernel
theorem d2_14 : decode prog_10_method_4_code 14 = .ok (.iconst 1, 1) := by decide +kernel
theorem d2_15 : decode prog_10_method_4_code 15 = .ok (.goto 30, 3) := by decide +kernel
theorem d2_18 : decode prog_10_method_4_code 18 = .ok (.iconst 0, 1) := by decide +kernel
theorem d2_19 : decode prog_10_method_4_code 19 = .ok (.goto 26, 3) := by decide +kernel
theorem d2_22 : decode prog_10_method_4_code 22 = .ok (.iload_n 0, 1) := by decide +kernel
theorem d2_23 : decode prog_10_method_4_code 23 = .ok (.bipush 9, 2) := by decide +kernel
theorem d2_25 : decode prog_10_method_4_code 25 = .ok (.if_icmp .eq 15, 3) := by decide +kernel
theorem d2_28 : decode prog_10_method_4_code 28 = .ok (.iload_n 0, 1) := by decide +kernel
theorem d2_29 : decode prog_10_method_4_code 29 = .ok (.bipush 10, 2) := by decide +kernel
theorem d2_31 : decode prog_10_method_4_code 31 = .ok (.if_icmp .eq 9, 3) := by decide +kernel
theorem d2_34 : decode prog_10_method_4_code 34 = .ok (.iload_n 0, 1) := by decide +kernel
theorem d2_35 : decode prog_10_method_4_code 35 = .ok (.bipush 13, 2) := by decide +kernel
theorem d2_37 : decode prog_10_method_4_code 37 = .ok (.if_icmp .ne 7, 3) := by decide +kernel
theorem d2_40 : decode prog_10_method_4_code 40 = .ok (.iconst 1, 1) := by decide +kernel
theorem d2_41 : decode prog_10_method_4_code 41 = .ok (.goto 4, 3) := by decide +kernel
theorem d2_44 : decode prog_10_method_4_code 44 = .ok (.iconst 0, 1) := by decide +kernel
theorem d2_45 : decode prog_10_method_4_code 45 = .ok (.istore_n 2, 1) := by decide +kernel
theorem d2_46 : decode prog_10_method_4_code 46 = .ok (.goto 39, 3) := by decide +kernel
theorem d2_49 : decode prog_10_method_4_code 49 = .ok (.iload_n 0, 1) := by decide +kernel
theorem d2_50 : decode prog_10_method_4_code 50 = .ok (.ldc 7, 2) := by decide +kernel
theorem d2_52 : decode prog_10_method_4_code 52 = .ok (.if_icmp .le 27, 3) := by decide +kernel
theorem d2_55 : decode prog_10_method_4_code 55 = .ok (.iload_n 0, 1) := by decide +kernel
theorem d2_56 : decode prog_10_method_4_code 56 = .ok (.ldc 8, 2) := by decide +kernel
theorem d2_58 : decode prog_10_method_4_code 58 = .ok (.if_icmp .lt 9, 3) := by decide +kernel
theorem d2_61 : decode prog_10_method_4_code 61 = .ok (.iload_n 0, 1) := by decide +kernel
theorem d2_62 : decode prog_10_method_4_code 62 = .ok (.ldc 9, 2) := by decide +kernel
theorem d2_64 : decode prog_10_method_4_code 64 = .ok (.if_icmp .le 15, 3) := by decide +kernel
theorem d2_67 : decode prog_10_method_4_code 67 = .ok (.iload_n 0, 1) := by decide +kernel
theorem d2_68 : decode prog_10_method_4_code 68 = .ok (.ldc 10, 2) := by decide +kernel
theorem d2_70 : decode prog_10_method_4_code 70 = .ok (.if_icmp .lt 13, 3) := by decide +kernel
theorem d2_73 : decode prog_10_method_4_code 73 = .ok (.iload_n 0, 1) := by decide +kernel
theorem d2_74 : decode prog_10_method_4_code 74 = .ok (.ldc 11, 2) := by decide +kernel
theorem d2_76 : decode prog_10_method_4_code 76 = .ok (.if_icmp .gt 7, 3) := by decide +kernel
theorem d2_79 : decode prog_10_method_4_code 79 = .ok (.iconst 1, 1) := by decide +kernel
theorem d2_80 : decode prog_10_method_4_code 80 = .ok (.goto 4, 3) := by decide +kernel
theorem d2_83 : decode prog_10_method_4_code 83 = .ok (.iconst 0, 1) := by decide +kernel
theorem d2_84 : decode prog_10_method_4_code 84 = .ok (.istore_n 2, 1) := by decide +kernel
theorem d2_85 : decode prog_10_method_4_code 85 = .ok (.iload_n 2, 1) := by decide +kernel
theorem d2_86 : decode prog_10_method_4_code 86 = .ok (.ireturn, 1) := by decide +kernel
set_option maxRecDepth 65536 in
set_option maxHeartbeats 40000000 in
theorem rm2 (l : Launch) (Z : State) (a0 : Array Value) (hw : ∀ d ∈ tables_1, d.before a0 Z = true) (ws : List Jvm.Cond) (p1 : Int32) (p2 : Int32) (h0 : Heap) (n0 : Nat) (Z0 : n0 ≤ h0.size)  :
    MetFree l (⟨"com/example/attlist/attlist/XmlChars", "isChar", "(IZ)Z"⟩ : MethodName) (head1 (Jvm.Cond.code (⟨"com/example/attlist/attlist/XmlChars", "isChar", "(IZ)Z"⟩ : MethodName) prog_10_method_4_code 3 (some .boolean) :: ws) ({ frames := 0, cells := 0, slots := 0, locals := 0 } : Room)) (fun aa U => aa = #[(.int p1), (.int p2)] ∧ Z.Warmed39 U.vm ∧ U.heap = h0) (fun _ _ _ _ _ => True) (fun _ U o U' => ∃ v L, o = .returned v ∧ Q_rm2 Z p1 p2 h0 n0 v U'.heap L ∧ FrameEnd U o U' L ({ frames := 0, cells := 0, slots := 0, locals := 0 } : Room).cells ({ frames := 0, cells := 0, slots := 0, locals := 0 } : Room).slots) := by
  refine MetFree.of_bodySF (plainFor_of_name own_pn1) hisR ?_
  intro p e s m args below meth c s₁ Bd hml0 hP hK
  obtain ⟨rfl, hZ, hh⟩ := hP
  have hx := Bd.exec
  have hby := Bd.bytes
  have hml : c.maxLocals = 3 := hml0
  have hlk : meth.locks = false := BodyLoose.notSynchronized Bd
  have hown : s.vm.findClass "com/example/attlist/attlist/XmlChars" = some m.cls := findClass_of_methodNamed Bd.named
  have hnm := (name_of_methodNamed Bd.named Bd.method).1
  have X0 : Stand p l e ({ frames := 0, cells := 0, slots := 0, locals := 0 } : Room) s m #[(.int p1), (.int p2)] below meth c s₁ [] 0 0 := Stand.of_body Bd
  have e0 : s₁.heap = h0 := by rw [← hh, Bd.state]; rfl
  have N0 := Fr.nil n0
  show own_Go p e below s (Q_rm2 Z p1 p2 h0 n0) 0 0 (s₁.setTop (entryFrame m #[(.int p1), (.int p2)] 3))
  refine own_go (B := s₁.setTop (mkF m 0 #[.val (.int p1), .val (.int p2), .unset] [])) (fun tgt cont => (XT.entry rfl).trans cont) ?_
  refine own_go (B := s₁.setTop (mkF m 3 #[.val (.int p1), .val (.int p2), .unset] [(.int (32 : Int32)), (.int p1)])) (fun tgt cont => ?_) ?_
  · refine XS.iloadN X0.here hx rfl (hb hby d2_0) rfl ?_
    refine XT.bipushV X0.here hx rfl (32 : Int32) (hb hby d2_1) rfl ?_
    exact cont
  by_cases hc1 : p1 < (32 : Int32)
  ·
    refine own_go (B := s₁.setTop (mkF m 7 #[.val (.int p1), .val (.int p2), .unset] [(.int p2)])) (fun tgt cont => ?_) ?_
    · refine XS.icmpNo X0.here hx rfl (hb hby d2_3) rfl (XT.ii_ge_f hc1) ?_
      refine XS.iloadN X0.here hx rfl (hb hby d2_6) rfl ?_
      exact cont
    by_cases hc2 : p2 = 0
    ·
      refine own_go (B := s₁.setTop (mkF m 25 #[.val (.int p1), .val (.int p2), .unset] [(.int (9 : Int32)), (.int p1)])) (fun tgt cont => ?_) ?_
      · refine XS.ifYes X0.here hx rfl (pc0 := 7) (pc' := 22) rfl (hb hby d2_7) rfl (XT.i0_eq_t hc2) (by decide) (by decide) ?_
        refine XS.iloadN X0.here hx rfl (hb hby d2_22) rfl ?_
        refine XT.bipushV X0.here hx rfl (9 : Int32) (hb hby d2_23) rfl ?_
        exact cont
      by_cases hc3 : p1 = (9 : Int32)
      ·
        refine own_go (B := s₁.setTop (mkF m 86 #[.val (.int p1), .val (.int p2), .val (.int (1 : Int32))] [(.int (1 : Int32))])) (fun tgt cont => ?_) ?_
        · refine XS.icmpYes X0.here hx rfl (pc0 := 25) (pc' := 40) rfl (hb hby d2_25) rfl (XT.ii_eq_t hc3) (by decide) (by decide) ?_
          refine XT.iconstV X0.here hx rfl (1 : Int32) (hb hby d2_40) rfl ?_
          refine XS.goto X0.here hx rfl (pc0 := 41) (pc' := 45) rfl (hb hby d2_41) (by decide) (by decide) ?_
          refine XS.istoreN X0.here hx rfl (hb hby d2_45) rfl (l' := #[.val (.int p1), .val (.int p2), .val (.int (1 : Int32))]) rfl ?_
          refine XS.goto X0.here hx rfl (pc0 := 46) (pc' := 85) rfl (hb hby d2_46) (by decide) (by decide) ?_
          refine XS.iloadN X0.here hx rfl (hb hby d2_85) rfl ?_
          exact cont
        refine own_end X0 (v := some (.int (1 : Int32))) (fun h => by rw [Bd.returns] at h; cases h) hlk ?_ (by decide) (by decide) (fun fs hl => retN X0 hx (t := .boolean) Bd.returns (by simp) (hb hby d2_86) hl)
        exact ⟨(by unfold own_ischar; first | exact rfl | (simp only [if_pos hc1, if_pos hc2, if_pos hc3]; first | done | exact rfl)), N0, e0⟩
      ·
        refine own_go (B := s₁.setTop (mkF m 31 #[.val (.int p1), .val (.int p2), .unset] [(.int (10 : Int32)), (.int p1)])) (fun tgt cont => ?_) ?_
        · refine XS.icmpNo X0.here hx rfl (hb hby d2_25) rfl (XT.ii_eq_f hc3) ?_
          refine XS.iloadN X0.here hx rfl (hb hby d2_28) rfl ?_
          refine XT.bipushV X0.here hx rfl (10 : Int32) (hb hby d2_29) rfl ?_
          exact cont
        by_cases hc4 : p1 = (10 : Int32)
        ·
          refine own_go (B := s₁.setTop (mkF m 86 #[.val (.int p1), .val (.int p2), .val (.int (1 : Int32))] [(.int (1 : Int32))])) (fun tgt cont => ?_) ?_
          · refine XS.icmpYes X0.here hx rfl (pc0 := 31) (pc' := 40) rfl (hb hby d2_31) rfl (XT.ii_eq_t hc4) (by decide) (by decide) ?_
            refine XT.iconstV X0.here hx rfl (1 : Int32) (hb hby d2_40) rfl ?_
            refine XS.goto X0.here hx rfl (pc0 := 41) (pc' := 45) rfl (hb hby d2_41) (by decide) (by decide) ?_
            refine XS.istoreN X0.here hx rfl (hb hby d2_45) rfl (l' := #[.val (.int p1), .val (.int p2), .val (.int (1 : Int32))]) rfl ?_
            refine XS.goto X0.here hx rfl (pc0 := 46) (pc' := 85) rfl (hb hby d2_46) (by decide) (by decide) ?_
            refine XS.iloadN X0.here hx rfl (hb hby d2_85) rfl ?_
            exact cont
          refine own_end X0 (v := some (.int (1 : Int32))) (fun h => by rw [Bd.returns] at h; cases h) hlk ?_ (by decide) (by decide) (fun fs hl => retN X0 hx (t := .boolean) Bd.returns (by simp) (hb hby d2_86) hl)
          exact ⟨(by unfold own_ischar; first | exact rfl | (simp only [if_pos hc1, if_pos hc2, if_neg hc3, if_pos hc4]; first | done | exact rfl)), N0, e0⟩
        ·
          refine own_go (B := s₁.setTop (mkF m 37 #[.val (.int p1), .val (.int p2), .unset] [(.int (13 : Int32)), (.int p1)])) (fun tgt cont => ?_) ?_
          · refine XS.icmpNo X0.here hx rfl (hb hby d2_31) rfl (XT.ii_eq_f hc4) ?_
            refine XS.iloadN X0.here hx rfl (hb hby d2_34) rfl ?_
            refine XT.bipushV X0.here hx rfl (13 : Int32) (hb hby d2_35) rfl ?_
            exact cont
          by_cases hc5 : p1 = (13 : Int32)
          ·
            refine own_go (B := s₁.setTop (mkF m 86 #[.val (.int p1), .val (.int p2), .val (.int (1 : Int32))] [(.int (1 : Int32))])) (fun tgt cont => ?_) ?_
            · refine XS.icmpNo X0.here hx rfl (hb hby d2_37) rfl (XT.ii_ne_f hc5) ?_
              refine XT.iconstV X0.here hx rfl (1 : Int32) (hb hby d2_40) rfl ?_
              refine XS.goto X0.here hx rfl (pc0 := 41) (pc' := 45) rfl (hb hby d2_41) (by decide) (by decide) ?_
              refine XS.istoreN X0.here hx rfl (hb hby d2_45) rfl (l' := #[.val (.int p1), .val (.int p2), .val (.int (1 : Int32))]) rfl ?_
              refine XS.goto X0.here hx rfl (pc0 := 46) (pc' := 85) rfl (hb hby d2_46) (by decide) (by decide) ?_
              refine XS.iloadN X0.here hx rfl (hb hby d2_85) rfl ?_
              exact cont
            refine own_end X0 (v := some (.int (1 : Int32))) (fun h => by rw [Bd.returns] at h; cases h) hlk ?_ (by decide) (by decide) (fun fs hl => retN X0 hx (t := .boolean) Bd.returns (by simp) (hb hby d2_86) hl)
            exact ⟨(by unfold own_ischar; first | exact rfl | (simp only [if_pos hc1, if_pos hc2, if_neg hc3, if_neg hc4, if_pos hc5]; first | done | exact rfl)), N0, e0⟩
          ·
            refine own_go (B := s₁.setTop (mkF m 86 #[.val (.int p1), .val (.int p2), .val (.int (0 : Int32))] [(.int (0 : Int32))])) (fun tgt cont => ?_) ?_
            · refine XS.icmpYes X0.here hx rfl (pc0 := 37) (pc' := 44) rfl (hb hby d2_37) rfl (XT.ii_ne_t hc5) (by decide) (by decide) ?_
              refine XT.iconstV X0.here hx rfl (0 : Int32) (hb hby d2_44) rfl ?_
              refine XS.istoreN X0.here hx rfl (hb hby d2_45) rfl (l' := #[.val (.int p1), .val (.int p2), .val (.int (0 : Int32))]) rfl ?_
              refine XS.goto X0.here hx rfl (pc0 := 46) (pc' := 85) rfl (hb hby d2_46) (by decide) (by decide) ?_
              refine XS.iloadN X0.here hx rfl (hb hby d2_85) rfl ?_
              exact cont
            refine own_end X0 (v := some (.int (0 : Int32))) (fun h => by rw [Bd.returns] at h; cases h) hlk ?_ (by decide) (by decide) (fun fs hl => retN X0 hx (t := .boolean) Bd.returns (by simp) (hb hby d2_86) hl)
            exact ⟨(by unfold own_ischar; first | exact rfl | (simp only [if_pos hc1, if_pos hc2, if_neg hc3, if_neg hc4, if_neg hc5]; first | done | exact rfl)), N0, e0⟩
    ·
      refine own_go (B := s₁.setTop (mkF m 11 #[.val (.int p1), .val (.int p2), .unset] [(.int p1)])) (fun tgt cont => ?_) ?_
      · refine XS.ifNo X0.here hx rfl (hb hby d2_7) rfl (XT.i0_eq_f hc2) ?_
        refine XS.iloadN X0.here hx rfl (hb hby d2_10) rfl ?_
        exact cont
      by_cases hc6 : 0 < p1
      ·
        refine own_go (B := s₁.setTop (mkF m 86 #[.val (.int p1), .val (.int p2), .val (.int (1 : Int32))] [(.int (1 : Int32))])) (fun tgt cont => ?_) ?_
        · refine XS.ifNo X0.here hx rfl (hb hby d2_11) rfl (XT.i0_le_f hc6) ?_
          refine XT.iconstV X0.here hx rfl (1 : Int32) (hb hby d2_14) rfl ?_
          refine XS.goto X0.here hx rfl (pc0 := 15) (pc' := 45) rfl (hb hby d2_15) (by decide) (by decide) ?_
          refine XS.istoreN X0.here hx rfl (hb hby d2_45) rfl (l' := #[.val (.int p1), .val (.int p2), .val (.int (1 : Int32))]) rfl ?_
          refine XS.goto X0.here hx rfl (pc0 := 46) (pc' := 85) rfl (hb hby d2_46) (by decide) (by decide) ?_
          refine XS.iloadN X0.here hx rfl (hb hby d2_85) rfl ?_
          exact cont
        refine own_end X0 (v := some (.int (1 : Int32))) (fun h => by rw [Bd.returns] at h; cases h) hlk ?_ (by decide) (by decide) (fun fs hl => retN X0 hx (t := .boolean) Bd.returns (by simp) (hb hby d2_86) hl)
        exact ⟨(by unfold own_ischar; first | exact rfl | (simp only [if_pos hc1, if_neg hc2, if_pos hc6]; first | done | exact rfl)), N0, e0⟩
      ·
        refine own_go (B := s₁.setTop (mkF m 86 #[.val (.int p1), .val (.int p2), .val (.int (0 : Int32))] [(.int (0 : Int32))])) (fun tgt cont => ?_) ?_
        · refine XS.ifYes X0.here hx rfl (pc0 := 11) (pc' := 18) rfl (hb hby d2_11) rfl (XT.i0_le_t hc6) (by decide) (by decide) ?_
          refine XT.iconstV X0.here hx rfl (0 : Int32) (hb hby d2_18) rfl ?_
          refine XS.goto X0.here hx rfl (pc0 := 19) (pc' := 45) rfl (hb hby d2_19) (by decide) (by decide) ?_
          refine XS.istoreN X0.here hx rfl (hb hby d2_45) rfl (l' := #[.val (.int p1), .val (.int p2), .val (.int (0 : Int32))]) rfl ?_
          refine XS.goto X0.here hx rfl (pc0 := 46) (pc' := 85) rfl (hb hby d2_46) (by decide) (by decide) ?_
          refine XS.iloadN X0.here hx rfl (hb hby d2_85) rfl ?_
          exact cont
        refine own_end X0 (v := some (.int (0 : Int32))) (fun h => by rw [Bd.returns] at h; cases h) hlk ?_ (by decide) (by decide) (fun fs hl => retN X0 hx (t := .boolean) Bd.returns (by simp) (hb hby d2_86) hl)
        exact ⟨(by unfold own_ischar; first | exact rfl | (simp only [if_pos hc1, if_neg hc2, if_neg hc6]; first | done | exact rfl)), N0, e0⟩
  ·
    refine own_go (B := s₁.setTop (mkF m 52 #[.val (.int p1), .val (.int p2), .unset] [(.int (55295 : Int32)), (.int p1)])) (fun tgt cont => ?_) ?_
    · refine XS.icmpYes X0.here hx rfl (pc0 := 3) (pc' := 49) rfl (hb hby d2_3) rfl (XT.ii_ge_t hc1) (by decide) (by decide) ?_
      refine XS.iloadN X0.here hx rfl (hb hby d2_49) rfl ?_
      refine Stand.ldcI X0 hx hown (mvT hZ (hw _ (List.mem_of_getElem? (i := 17) rfl))) rfl (hb hby d2_50) ?_
      exact cont
    by_cases hc7 : (55295 : Int32) < p1
    ·
      refine own_go (B := s₁.setTop (mkF m 58 #[.val (.int p1), .val (.int p2), .unset] [(.int (57344 : Int32)), (.int p1)])) (fun tgt cont => ?_) ?_
      · refine XS.icmpNo X0.here hx rfl (hb hby d2_52) rfl (XT.ii_le_f hc7) ?_
        refine XS.iloadN X0.here hx rfl (hb hby d2_55) rfl ?_
        refine Stand.ldcI X0 hx hown (mvT hZ (hw _ (List.mem_of_getElem? (i := 18) rfl))) rfl (hb hby d2_56) ?_
        exact cont
      by_cases hc8 : p1 < (57344 : Int32)
      ·
        refine own_go (B := s₁.setTop (mkF m 70 #[.val (.int p1), .val (.int p2), .unset] [(.int (65536 : Int32)), (.int p1)])) (fun tgt cont => ?_) ?_
        · refine XS.icmpYes X0.here hx rfl (pc0 := 58) (pc' := 67) rfl (hb hby d2_58) rfl (XT.ii_lt_t hc8) (by decide) (by decide) ?_
          refine XS.iloadN X0.here hx rfl (hb hby d2_67) rfl ?_
          refine Stand.ldcI X0 hx hown (mvT hZ (hw _ (List.mem_of_getElem? (i := 20) rfl))) rfl (hb hby d2_68) ?_
          exact cont
        by_cases hc9 : p1 < (65536 : Int32)
        ·
          refine own_go (B := s₁.setTop (mkF m 86 #[.val (.int p1), .val (.int p2), .val (.int (0 : Int32))] [(.int (0 : Int32))])) (fun tgt cont => ?_) ?_
          · refine XS.icmpYes X0.here hx rfl (pc0 := 70) (pc' := 83) rfl (hb hby d2_70) rfl (XT.ii_lt_t hc9) (by decide) (by decide) ?_
            refine XT.iconstV X0.here hx rfl (0 : Int32) (hb hby d2_83) rfl ?_
            refine XS.istoreN X0.here hx rfl (hb hby d2_84) rfl (l' := #[.val (.int p1), .val (.int p2), .val (.int (0 : Int32))]) rfl ?_
            refine XS.iloadN X0.here hx rfl (hb hby d2_85) rfl ?_
            exact cont
          refine own_end X0 (v := some (.int (0 : Int32))) (fun h => by rw [Bd.returns] at h; cases h) hlk ?_ (by decide) (by decide) (fun fs hl => retN X0 hx (t := .boolean) Bd.returns (by simp) (hb hby d2_86) hl)
          exact ⟨(by unfold own_ischar; first | exact rfl | (simp only [if_neg hc1, if_pos hc7, if_pos hc8, if_pos hc9]; first | done | exact rfl)), N0, e0⟩
        ·
          refine own_go (B := s₁.setTop (mkF m 76 #[.val (.int p1), .val (.int p2), .unset] [(.int (1114111 : Int32)), (.int p1)])) (fun tgt cont => ?_) ?_
          · refine XS.icmpNo X0.here hx rfl (hb hby d2_70) rfl (XT.ii_lt_f hc9) ?_
            refine XS.iloadN X0.here hx rfl (hb hby d2_73) rfl ?_
            refine Stand.ldcI X0 hx hown (mvT hZ (hw _ (List.mem_of_getElem? (i := 21) rfl))) rfl (hb hby d2_74) ?_
            exact cont
          by_cases hc10 : (1114111 : Int32) < p1
          ·
            refine own_go (B := s₁.setTop (mkF m 86 #[.val (.int p1), .val (.int p2), .val (.int (0 : Int32))] [(.int (0 : Int32))])) (fun tgt cont => ?_) ?_
            · refine XS.icmpYes X0.here hx rfl (pc0 := 76) (pc' := 83) rfl (hb hby d2_76) rfl (XT.ii_gt_t hc10) (by decide) (by decide) ?_
              refine XT.iconstV X0.here hx rfl (0 : Int32) (hb hby d2_83) rfl ?_
              refine XS.istoreN X0.here hx rfl (hb hby d2_84) rfl (l' := #[.val (.int p1), .val (.int p2), .val (.int (0 : Int32))]) rfl ?_
              refine XS.iloadN X0.here hx rfl (hb hby d2_85) rfl ?_
              exact cont
            refine own_end X0 (v := some (.int (0 : Int32))) (fun h => by rw [Bd.returns] at h; cases h) hlk ?_ (by decide) (by decide) (fun fs hl => retN X0 hx (t := .boolean) Bd.returns (by simp) (hb hby d2_86) hl)
            exact ⟨(by unfold own_ischar; first | exact rfl | (simp only [if_neg hc1, if_pos hc7, if_pos hc8, if_neg hc9, if_pos hc10]; first | done | exact rfl)), N0, e0⟩
          ·
            refine own_go (B := s₁.setTop (mkF m 86 #[.val (.int p1), .val (.int p2), .val (.int (1 : Int32))] [(.int (1 : Int32))])) (fun tgt cont => ?_) ?_
            · refine XS.icmpNo X0.here hx rfl (hb hby d2_76) rfl (XT.ii_gt_f hc10) ?_
              refine XT.iconstV X0.here hx rfl (1 : Int32) (hb hby d2_79) rfl ?_
              refine XS.goto X0.here hx rfl (pc0 := 80) (pc' := 84) rfl (hb hby d2_80) (by decide) (by decide) ?_
              refine XS.istoreN X0.here hx rfl (hb hby d2_84) rfl (l' := #[.val (.int p1), .val (.int p2), .val (.int (1 : Int32))]) rfl ?_
              refine XS.iloadN X0.here hx rfl (hb hby d2_85) rfl ?_
              exact cont
            refine own_end X0 (v := some (.int (1 : Int32))) (fun h => by rw [Bd.returns] at h; cases h) hlk ?_ (by decide) (by decide) (fun fs hl => retN X0 hx (t := .boolean) Bd.returns (by simp) (hb hby d2_86) hl)
            exact ⟨(by unfold own_ischar; first | exact rfl | (simp only [if_neg hc1, if_pos hc7, if_pos hc8, if_neg hc9, if_neg hc10]; first | done | exact rfl)), N0, e0⟩
      ·
        refine own_go (B := s₁.setTop (mkF m 64 #[.val (.int p1), .val (.int p2), .unset] [(.int (65533 : Int32)), (.int p1)])) (fun tgt cont => ?_) ?_
        · refine XS.icmpNo X0.here hx rfl (hb hby d2_58) rfl (XT.ii_lt_f hc8) ?_
          refine XS.iloadN X0.here hx rfl (hb hby d2_61) rfl ?_
          refine Stand.ldcI X0 hx hown (mvT hZ (hw _ (List.mem_of_getElem? (i := 19) rfl))) rfl (hb hby d2_62) ?_
          exact cont
        by_cases hc11 : (65533 : Int32) < p1
        ·
          refine own_go (B := s₁.setTop (mkF m 70 #[.val (.int p1), .val (.int p2), .unset] [(.int (65536 : Int32)), (.int p1)])) (fun tgt cont => ?_) ?_
          · refine XS.icmpNo X0.here hx rfl (hb hby d2_64) rfl (XT.ii_le_f hc11) ?_
            refine XS.iloadN X0.here hx rfl (hb hby d2_67) rfl ?_
            refine Stand.ldcI X0 hx hown (mvT hZ (hw _ (List.mem_of_getElem? (i := 20) rfl))) rfl (hb hby d2_68) ?_
            exact cont
          by_cases hc12 : p1 < (65536 : Int32)
          ·
            refine own_go (B := s₁.setTop (mkF m 86 #[.val (.int p1), .val (.int p2), .val (.int (0 : Int32))] [(.int (0 : Int32))])) (fun tgt cont => ?_) ?_
            · refine XS.icmpYes X0.here hx rfl (pc0 := 70) (pc' := 83) rfl (hb hby d2_70) rfl (XT.ii_lt_t hc12) (by decide) (by decide) ?_
              refine XT.iconstV X0.here hx rfl (0 : Int32) (hb hby d2_83) rfl ?_
              refine XS.istoreN X0.here hx rfl (hb hby d2_84) rfl (l' := #[.val (.int p1), .val (.int p2), .val (.int (0 : Int32))]) rfl ?_
              refine XS.iloadN X0.here hx rfl (hb hby d2_85) rfl ?_
              exact cont
            refine own_end X0 (v := some (.int (0 : Int32))) (fun h => by rw [Bd.returns] at h; cases h) hlk ?_ (by decide) (by decide) (fun fs hl => retN X0 hx (t := .boolean) Bd.returns (by simp) (hb hby d2_86) hl)
            exact ⟨(by unfold own_ischar; first | exact rfl | (simp only [if_neg hc1, if_pos hc7, if_neg hc8, if_pos hc11, if_pos hc12]; first | done | exact rfl)), N0, e0⟩
          ·
            refine own_go (B := s₁.setTop (mkF m 76 #[.val (.int p1), .val (.int p2), .unset] [(.int (1114111 : Int32)), (.int p1)])) (fun tgt cont => ?_) ?_
            · refine XS.icmpNo X0.here hx rfl (hb hby d2_70) rfl (XT.ii_lt_f hc12) ?_
              refine XS.iloadN X0.here hx rfl (hb hby d2_73) rfl ?_
              refine Stand.ldcI X0 hx hown (mvT hZ (hw _ (List.mem_of_getElem? (i := 21) rfl))) rfl (hb hby d2_74) ?_
              exact cont
            by_cases hc13 : (1114111 : Int32) < p1
            ·
              refine own_go (B := s₁.setTop (mkF m 86 #[.val (.int p1), .val (.int p2), .val (.int (0 : Int32))] [(.int (0 : Int32))])) (fun tgt cont => ?_) ?_
              · refine XS.icmpYes X0.here hx rfl (pc0 := 76) (pc' := 83) rfl (hb hby d2_76) rfl (XT.ii_gt_t hc13) (by decide) (by decide) ?_
                refine XT.iconstV X0.here hx rfl (0 : Int32) (hb hby d2_83) rfl ?_
                refine XS.istoreN X0.here hx rfl (hb hby d2_84) rfl (l' := #[.val (.int p1), .val (.int p2), .val (.int (0 : Int32))]) rfl ?_
                refine XS.iloadN X0.here hx rfl (hb hby d2_85) rfl ?_
                exact cont
              refine own_end X0 (v := some (.int (0 : Int32))) (fun h => by rw [Bd.returns] at h; cases h) hlk ?_ (by decide) (by decide) (fun fs hl => retN X0 hx (t := .boolean) Bd.returns (by simp) (hb hby d2_86) hl)
              exact ⟨(by unfold own_ischar; first | exact rfl | (simp only [if_neg hc1, if_pos hc7, if_neg hc8, if_pos hc11, if_neg hc12, if_pos hc13]; first | done | exact rfl)), N0, e0⟩
            ·
              refine own_go (B := s₁.setTop (mkF m 86 #[.val (.int p1), .val (.int p2), .val (.int (1 : Int32))] [(.int (1 : Int32))])) (fun tgt cont => ?_) ?_
              · refine XS.icmpNo X0.here hx rfl (hb hby d2_76) rfl (XT.ii_gt_f hc13) ?_
                refine XT.iconstV X0.here hx rfl (1 : Int32) (hb hby d2_79) rfl ?_
                refine XS.goto X0.here hx rfl (pc0 := 80) (pc' := 84) rfl (hb hby d2_80) (by decide) (by decide) ?_
                refine XS.istoreN X0.here hx rfl (hb hby d2_84) rfl (l' := #[.val (.int p1), .val (.int p2), .val (.int (1 : Int32))]) rfl ?_
                refine XS.iloadN X0.here hx rfl (hb hby d2_85) rfl ?_
                exact cont
              refine own_end X0 (v := some (.int (1 : Int32))) (fun h => by rw [Bd.returns] at h; cases h) hlk ?_ (by decide) (by decide) (fun fs hl => retN X0 hx (t := .boolean) Bd.returns (by simp) (hb hby d2_86) hl)
              exact ⟨(by unfold own_ischar; first | exact rfl | (simp only [if_neg hc1, if_pos hc7, if_neg hc8, if_pos hc11, if_neg hc12, if_neg hc13]; first | done | exact rfl)), N0, e0⟩
        ·
          refine own_go (B := s₁.setTop (mkF m 86 #[.val (.int p1), .val (.int p2), .val (.int (1 : Int32))] [(.int (1 : Int32))])) (fun tgt cont => ?_) ?_
          · refine XS.icmpYes X0.here hx rfl (pc0 := 64) (pc' := 79) rfl (hb hby d2_64) rfl (XT.ii_le_t hc11) (by decide) (by decide) ?_
            refine XT.iconstV X0.here hx rfl (1 : Int32) (hb hby d2_79) rfl ?_
            refine XS.goto X0.here hx rfl (pc0 := 80) (pc' := 84) rfl (hb hby d2_80) (by decide) (by decide) ?_
            refine XS.istoreN X0.here hx rfl (hb hby d2_84) rfl (l' := #[.val (.int p1), .val (.int p2), .val (.int (1 : Int32))]) rfl ?_
            refine XS.iloadN X0.here hx rfl (hb hby d2_85) rfl ?_
            exact cont
          refine own_end X0 (v := some (.int (1 : Int32))) (fun h => by rw [Bd.returns] at h; cases h) hlk ?_ (by decide) (by decide) (fun fs hl => retN X0 hx (t := .boolean) Bd.returns (by simp) (hb hby d2_86) hl)
          exact ⟨(by unfold own_ischar; first | exact rfl | (simp only [if_neg hc1, if_pos hc7, if_neg hc8, if_neg hc11]; first | done | exact rfl)), N0, e0⟩
    ·
      refine own_go (B := s₁.setTop (mkF m 86 #[.val (.int p1), .val (.int p2), .val (.int (1 : Int32))] [(.int (1 : Int32))])) (fun tgt cont => ?_) ?_
      · refine XS.icmpYes X0.here hx rfl (pc0 := 52) (pc' := 79) rfl (hb hby d2_52) rfl (XT.ii_le_t hc7) (by decide) (by decide) ?_
        refine XT.iconstV X0.here hx rfl (1 : Int32) (hb hby d2_79) rfl ?_
        refine XS.goto X0.here hx rfl (pc0 := 80) (pc' := 84) rfl (hb hby d2_80) (by decide) (by decide) ?_
        refine XS.istoreN X0.here hx rfl (hb hby d2_84) rfl (l' := #[.val (.int p1), .val (.int p2), .val (.int (1 : Int32))]) rfl ?_
        refine XS.iloadN X0.here hx rfl (hb hby d2_85) rfl ?_
        exact cont
      refine own_end X0 (v := some (.int (1 : Int32))) (fun h => by rw [Bd.returns] at h; cases h) hlk ?_ (by decide) (by decide) (fun fs hl => retN X0 hx (t := .boolean) Bd.returns (by simp) (hb hby d2_86) hl)
      exact ⟨(by unfold own_ischar; first | exact rfl | (simp only [if_neg hc1, if_neg hc7]; first | done | exact rfl)), N0, e0⟩
def own_bd (p1 : Int32) : Int32 := if p1 = 0 then (0 : Int32) else if p1 = (1 : Int32) then (9 : Int32) else if p1 = (2 : Int32) then (10 : Int32) else if p1 = (3 : Int32) then (13 : Int32) else if p1 = (4 : Int32) then (32 : Int32) else if p1 = (5 : Int32) then (55296 : Int32) else if p1 = (6 : Int32) then (57344 : Int32) else if p1 = (7 : Int32) then (65534 : Int32) else if p1 = (8 : Int32) then (65536 : Int32) else (1114112 : Int32)
def Q_rm3 (Z : State) (p1 : Int32) (h0 : Heap) (n0 : Nat) (v : Option Value) (h : Heap) (L : List Loc) : Prop := v = some (.int (own_bd p1)) ∧ Fr n0 L ∧ h = h0
theorem d3_0 : decode method_3_code 0 = .ok (.iload_n 0, 1) := by decide +kernel
theorem d3_1 : decode method_3_code 1 = .ok (.ifCond .ne 5, 3) := by decide +kernel
theorem d3_4 : decode method_3_code 4 = .ok (.iconst 0, 1) := by decide +kernel
theorem d3_5 : decode method_3_code 5 = .ok (.ireturn, 1) := by decide +kernel
theorem d3_6 : decode method_3_code 6 = .ok (.iload_n 0, 1) := by decide +kernel
theorem d3_7 : decode method_3_code 7 = .ok (.iconst 1, 1) := by decide +kernel
theorem d3_8 : decode method_3_code 8 = .ok (.if_icmp .ne 6, 3) := by decide +kernel
theorem d3_11 : decode method_3_code 11 = .ok (.bipush 9, 2) := by decide +kernel
theorem d3_13 : decode method_3_code 13 = .ok (.ireturn, 1) := by decide +kernel
theorem d3_14 : decode method_3_code 14 = .ok (.iload_n 0, 1) := by decide +kernel
theorem d3_15 : decode method_3_code 15 = .ok (.iconst 2, 1) := by decide +kernel
theorem d3_16 : decode method_3_code 16 = .ok (.if_icmp .ne 6, 3) := by decide +kernel
theorem d3_19 : decode method_3_code 19 = .ok (.bipush 10, 2) := by decide +kernel
theorem d3_21 : decode method_3_code 21 = .ok (.ireturn, 1) := by decide +kernel
theorem d3_22 : decode method_3_code 22 = .ok (.iload_n 0, 1) := by decide +kernel
theorem d3_23 : decode method_3_code 23 = .ok (.iconst 3, 1) := by decide +kernel
theorem d3_24 : decode method_3_code 24 = .ok (.if_icmp .ne 6, 3) := by decide +kernel
theorem d3_27 : decode method_3_code 27 = .ok (.bipush 13, 2) := by decide +kernel
theorem d3_29 : decode method_3_code 29 = .ok (.ireturn, 1) := by decide +kernel
theorem d3_30 : decode method_3_code 30 = .ok (.iload_n 0, 1) := by decide +kernel
theorem d3_31 : decode method_3_code 31 = .ok (.iconst 4, 1) := by decide +kernel
theorem d3_32 : decode method_3_code 32 = .ok (.if_icmp .ne 6, 3) := by decide +kernel
theorem d3_35 : decode method_3_code 35 = .ok (.bipush 32, 2) := by decide +kernel
theorem d3_37 : decode method_3_code 37 = .ok (.ireturn, 1) := by decide +kernel
theorem d3_38 : decode method_3_code 38 = .ok (.iload_n 0, 1) := by decide +kernel
theorem d3_39 : decode method_3_code 39 = .ok (.iconst 5, 1) := by decide +kernel
theorem d3_40 : decode method_3_code 40 = .ok (.if_icmp .ne 6, 3) := by decide +kernel
theorem d3_43 : decode method_3_code 43 = .ok (.ldc 7, 2) := by decide +kernel
theorem d3_45 : decode method_3_code 45 = .ok (.ireturn, 1) := by decide +kernel
theorem d3_46 : decode method_3_code 46 = .ok (.iload_n 0, 1) := by decide +kernel
theorem d3_47 : decode method_3_code 47 = .ok (.bipush 6, 2) := by decide +kernel
theorem d3_49 : decode method_3_code 49 = .ok (.if_icmp .ne 6, 3) := by decide +kernel
theorem d3_52 : decode method_3_code 52 = .ok (.ldc 8, 2) := by decide +kernel
theorem d3_54 : decode method_3_code 54 = .ok (.ireturn, 1) := by decide +kernel
theorem d3_55 : decode method_3_code 55 = .ok (.iload_n 0, 1) := by decide +kernel
theorem d3_56 : decode method_3_code 56 = .ok (.bipush 7, 2) := by decide +kernel
theorem d3_58 : decode method_3_code 58 = .ok (.if_icmp .ne 6, 3) := by decide +kernel
theorem d3_61 : decode method_3_code 61 = .ok (.ldc 9, 2) := by decide +kernel
theorem d3_63 : decode method_3_code 63 = .ok (.ireturn, 1) := by decide +kernel
theorem d3_64 : decode method_3_code 64 = .ok (.iload_n 0, 1) := by decide +kernel
theorem d3_65 : decode method_3_code 65 = .ok (.bipush 8, 2) := by decide +kernel
theorem d3_67 : decode method_3_code 67 = .ok (.if_icmp .ne 6, 3) := by decide +kernel
theorem d3_70 : decode method_3_code 70 = .ok (.ldc 10, 2) := by decide +kernel
theorem d3_72 : decode method_3_code 72 = .ok (.ireturn, 1) := by decide +kernel
theorem d3_73 : decode method_3_code 73 = .ok (.ldc 11, 2) := by decide +kernel
theorem d3_75 : decode method_3_code 75 = .ok (.ireturn, 1) := by decide +kernel
set_option maxRecDepth 65536 in
set_option maxHeartbeats 40000000 in
theorem rm3 (l : Launch) (Z : State) (a0 : Array Value) (hw : ∀ d ∈ tables_1, d.before a0 Z = true) (ws : List Jvm.Cond) (p1 : Int32) (h0 : Heap) (n0 : Nat) (Z0 : n0 ≤ h0.size)  :
    MetFree l (⟨"com/example/attlist/attlist/XmlCharsIsCharPinLaw", "boundary", "(I)I"⟩ : MethodName) (head1 (Jvm.Cond.code (⟨"com/example/attlist/attlist/XmlCharsIsCharPinLaw", "boundary", "(I)I"⟩ : MethodName) method_3_code 1 (some .int) :: ws) ({ frames := 0, cells := 0, slots := 0, locals := 0 } : Room)) (fun aa U => aa = #[(.int p1)] ∧ Z.Warmed39 U.vm ∧ U.heap = h0) (fun _ _ _ _ _ => True) (fun _ U o U' => ∃ v L, o = .returned v ∧ Q_rm3 Z p1 h0 n0 v U'.heap L ∧ FrameEnd U o U' L ({ frames := 0, cells := 0, slots := 0, locals := 0 } : Room).cells ({ frames := 0, cells := 0, slots := 0, locals := 0 } : Room).slots) := by
  refine MetFree.of_bodySF (plainFor_of_name own_pn0) hisR ?_
  intro p e s m args below meth c s₁ Bd hml0 hP hK
  obtain ⟨rfl, hZ, hh⟩ := hP
  have hx := Bd.exec
  have hby := Bd.bytes
  have hml : c.maxLocals = 1 := hml0
  have hlk : meth.locks = false := BodyLoose.notSynchronized Bd
  have hown : s.vm.findClass "com/example/attlist/attlist/XmlCharsIsCharPinLaw" = some m.cls := findClass_of_methodNamed Bd.named
  have hnm := (name_of_methodNamed Bd.named Bd.method).1
  have X0 : Stand p l e ({ frames := 0, cells := 0, slots := 0, locals := 0 } : Room) s m #[(.int p1)] below meth c s₁ [] 0 0 := Stand.of_body Bd
  have e0 : s₁.heap = h0 := by rw [← hh, Bd.state]; rfl
  have N0 := Fr.nil n0
  show own_Go p e below s (Q_rm3 Z p1 h0 n0) 0 0 (s₁.setTop (entryFrame m #[(.int p1)] 1))
  refine own_go (B := s₁.setTop (mkF m 0 #[.val (.int p1)] [])) (fun tgt cont => (XT.entry rfl).trans cont) ?_
  refine own_go (B := s₁.setTop (mkF m 1 #[.val (.int p1)] [(.int p1)])) (fun tgt cont => ?_) ?_
  · refine XS.iloadN X0.here hx rfl (hb hby d3_0) rfl ?_
    exact cont
  by_cases hc1 : p1 = 0
  ·
    refine own_go (B := s₁.setTop (mkF m 5 #[.val (.int p1)] [(.int (0 : Int32))])) (fun tgt cont => ?_) ?_
    · refine XS.ifNo X0.here hx rfl (hb hby d3_1) rfl (XT.i0_ne_f hc1) ?_
      refine XT.iconstV X0.here hx rfl (0 : Int32) (hb hby d3_4) rfl ?_
      exact cont
    refine own_end X0 (v := some (.int (0 : Int32))) (fun h => by rw [Bd.returns] at h; cases h) hlk ?_ (by decide) (by decide) (fun fs hl => retI X0 hx Bd.returns (hb hby d3_5) hl)
    exact ⟨(by unfold own_bd; first | exact rfl | (simp only [if_pos hc1]; first | done | exact rfl)), N0, e0⟩
  ·
    refine own_go (B := s₁.setTop (mkF m 8 #[.val (.int p1)] [(.int (1 : Int32)), (.int p1)])) (fun tgt cont => ?_) ?_
    · refine XS.ifYes X0.here hx rfl (pc0 := 1) (pc' := 6) rfl (hb hby d3_1) rfl (XT.i0_ne_t hc1) (by decide) (by decide) ?_
      refine XS.iloadN X0.here hx rfl (hb hby d3_6) rfl ?_
      refine XT.iconstV X0.here hx rfl (1 : Int32) (hb hby d3_7) rfl ?_
      exact cont
    by_cases hc2 : p1 = (1 : Int32)
    ·
      refine own_go (B := s₁.setTop (mkF m 13 #[.val (.int p1)] [(.int (9 : Int32))])) (fun tgt cont => ?_) ?_
      · refine XS.icmpNo X0.here hx rfl (hb hby d3_8) rfl (XT.ii_ne_f hc2) ?_
        refine XT.bipushV X0.here hx rfl (9 : Int32) (hb hby d3_11) rfl ?_
        exact cont
      refine own_end X0 (v := some (.int (9 : Int32))) (fun h => by rw [Bd.returns] at h; cases h) hlk ?_ (by decide) (by decide) (fun fs hl => retI X0 hx Bd.returns (hb hby d3_13) hl)
      exact ⟨(by unfold own_bd; first | exact rfl | (simp only [if_neg hc1, if_pos hc2]; first | done | exact rfl)), N0, e0⟩
    ·
      refine own_go (B := s₁.setTop (mkF m 16 #[.val (.int p1)] [(.int (2 : Int32)), (.int p1)])) (fun tgt cont => ?_) ?_
      · refine XS.icmpYes X0.here hx rfl (pc0 := 8) (pc' := 14) rfl (hb hby d3_8) rfl (XT.ii_ne_t hc2) (by decide) (by decide) ?_
        refine XS.iloadN X0.here hx rfl (hb hby d3_14) rfl ?_
        refine XT.iconstV X0.here hx rfl (2 : Int32) (hb hby d3_15) rfl ?_
        exact cont
      by_cases hc3 : p1 = (2 : Int32)
      ·
        refine own_go (B := s₁.setTop (mkF m 21 #[.val (.int p1)] [(.int (10 : Int32))])) (fun tgt cont => ?_) ?_
        · refine XS.icmpNo X0.here hx rfl (hb hby d3_16) rfl (XT.ii_ne_f hc3) ?_
          refine XT.bipushV X0.here hx rfl (10 : Int32) (hb hby d3_19) rfl ?_
          exact cont
        refine own_end X0 (v := some (.int (10 : Int32))) (fun h => by rw [Bd.returns] at h; cases h) hlk ?_ (by decide) (by decide) (fun fs hl => retI X0 hx Bd.returns (hb hby d3_21) hl)
        exact ⟨(by unfold own_bd; first | exact rfl | (simp only [if_neg hc1, if_neg hc2, if_pos hc3]; first | done | exact rfl)), N0, e0⟩
      ·
        refine own_go (B := s₁.setTop (mkF m 24 #[.val (.int p1)] [(.int (3 : Int32)), (.int p1)])) (fun tgt cont => ?_) ?_
        · refine XS.icmpYes X0.here hx rfl (pc0 := 16) (pc' := 22) rfl (hb hby d3_16) rfl (XT.ii_ne_t hc3) (by decide) (by decide) ?_
          refine XS.iloadN X0.here hx rfl (hb hby d3_22) rfl ?_
          refine XT.iconstV X0.here hx rfl (3 : Int32) (hb hby d3_23) rfl ?_
          exact cont
        by_cases hc4 : p1 = (3 : Int32)
        ·
          refine own_go (B := s₁.setTop (mkF m 29 #[.val (.int p1)] [(.int (13 : Int32))])) (fun tgt cont => ?_) ?_
          · refine XS.icmpNo X0.here hx rfl (hb hby d3_24) rfl (XT.ii_ne_f hc4) ?_
            refine XT.bipushV X0.here hx rfl (13 : Int32) (hb hby d3_27) rfl ?_
            exact cont
          refine own_end X0 (v := some (.int (13 : Int32))) (fun h => by rw [Bd.returns] at h; cases h) hlk ?_ (by decide) (by decide) (fun fs hl => retI X0 hx Bd.returns (hb hby d3_29) hl)
          exact ⟨(by unfold own_bd; first | exact rfl | (simp only [if_neg hc1, if_neg hc2, if_neg hc3, if_pos hc4]; first | done | exact rfl)), N0, e0⟩
        ·
          refine own_go (B := s₁.setTop (mkF m 32 #[.val (.int p1)] [(.int (4 : Int32)), (.int p1)])) (fun tgt cont => ?_) ?_
          · refine XS.icmpYes X0.here hx rfl (pc0 := 24) (pc' := 30) rfl (hb hby d3_24) rfl (XT.ii_ne_t hc4) (by decide) (by decide) ?_
            refine XS.iloadN X0.here hx rfl (hb hby d3_30) rfl ?_
            refine XT.iconstV X0.here hx rfl (4 : Int32) (hb hby d3_31) rfl ?_
            exact cont
          by_cases hc5 : p1 = (4 : Int32)
          ·
            refine own_go (B := s₁.setTop (mkF m 37 #[.val (.int p1)] [(.int (32 : Int32))])) (fun tgt cont => ?_) ?_
            · refine XS.icmpNo X0.here hx rfl (hb hby d3_32) rfl (XT.ii_ne_f hc5) ?_
              refine XT.bipushV X0.here hx rfl (32 : Int32) (hb hby d3_35) rfl ?_
              exact cont
            refine own_end X0 (v := some (.int (32 : Int32))) (fun h => by rw [Bd.returns] at h; cases h) hlk ?_ (by decide) (by decide) (fun fs hl => retI X0 hx Bd.returns (hb hby d3_37) hl)
            exact ⟨(by unfold own_bd; first | exact rfl | (simp only [if_neg hc1, if_neg hc2, if_neg hc3, if_neg hc4, if_pos hc5]; first | done | exact rfl)), N0, e0⟩
          ·
            refine own_go (B := s₁.setTop (mkF m 40 #[.val (.int p1)] [(.int (5 : Int32)), (.int p1)])) (fun tgt cont => ?_) ?_
            · refine XS.icmpYes X0.here hx rfl (pc0 := 32) (pc' := 38) rfl (hb hby d3_32) rfl (XT.ii_ne_t hc5) (by decide) (by decide) ?_
              refine XS.iloadN X0.here hx rfl (hb hby d3_38) rfl ?_
              refine XT.iconstV X0.here hx rfl (5 : Int32) (hb hby d3_39) rfl ?_
              exact cont
            by_cases hc6 : p1 = (5 : Int32)
            ·
              refine own_go (B := s₁.setTop (mkF m 45 #[.val (.int p1)] [(.int (55296 : Int32))])) (fun tgt cont => ?_) ?_
              · refine XS.icmpNo X0.here hx rfl (hb hby d3_40) rfl (XT.ii_ne_f hc6) ?_
                refine Stand.ldcI X0 hx hown (mvT hZ (hw _ (List.mem_of_getElem? (i := 23) rfl))) rfl (hb hby d3_43) ?_
                exact cont
              refine own_end X0 (v := some (.int (55296 : Int32))) (fun h => by rw [Bd.returns] at h; cases h) hlk ?_ (by decide) (by decide) (fun fs hl => retI X0 hx Bd.returns (hb hby d3_45) hl)
              exact ⟨(by unfold own_bd; first | exact rfl | (simp only [if_neg hc1, if_neg hc2, if_neg hc3, if_neg hc4, if_neg hc5, if_pos hc6]; first | done | exact rfl)), N0, e0⟩
            ·
              refine own_go (B := s₁.setTop (mkF m 49 #[.val (.int p1)] [(.int (6 : Int32)), (.int p1)])) (fun tgt cont => ?_) ?_
              · refine XS.icmpYes X0.here hx rfl (pc0 := 40) (pc' := 46) rfl (hb hby d3_40) rfl (XT.ii_ne_t hc6) (by decide) (by decide) ?_
                refine XS.iloadN X0.here hx rfl (hb hby d3_46) rfl ?_
                refine XT.bipushV X0.here hx rfl (6 : Int32) (hb hby d3_47) rfl ?_
                exact cont
              by_cases hc7 : p1 = (6 : Int32)
              ·
                refine own_go (B := s₁.setTop (mkF m 54 #[.val (.int p1)] [(.int (57344 : Int32))])) (fun tgt cont => ?_) ?_
                · refine XS.icmpNo X0.here hx rfl (hb hby d3_49) rfl (XT.ii_ne_f hc7) ?_
                  refine Stand.ldcI X0 hx hown (mvT hZ (hw _ (List.mem_of_getElem? (i := 5) rfl))) rfl (hb hby d3_52) ?_
                  exact cont
                refine own_end X0 (v := some (.int (57344 : Int32))) (fun h => by rw [Bd.returns] at h; cases h) hlk ?_ (by decide) (by decide) (fun fs hl => retI X0 hx Bd.returns (hb hby d3_54) hl)
                exact ⟨(by unfold own_bd; first | exact rfl | (simp only [if_neg hc1, if_neg hc2, if_neg hc3, if_neg hc4, if_neg hc5, if_neg hc6, if_pos hc7]; first | done | exact rfl)), N0, e0⟩
              ·
                refine own_go (B := s₁.setTop (mkF m 58 #[.val (.int p1)] [(.int (7 : Int32)), (.int p1)])) (fun tgt cont => ?_) ?_
                · refine XS.icmpYes X0.here hx rfl (pc0 := 49) (pc' := 55) rfl (hb hby d3_49) rfl (XT.ii_ne_t hc7) (by decide) (by decide) ?_
                  refine XS.iloadN X0.here hx rfl (hb hby d3_55) rfl ?_
                  refine XT.bipushV X0.here hx rfl (7 : Int32) (hb hby d3_56) rfl ?_
                  exact cont
                by_cases hc8 : p1 = (7 : Int32)
                ·
                  refine own_go (B := s₁.setTop (mkF m 63 #[.val (.int p1)] [(.int (65534 : Int32))])) (fun tgt cont => ?_) ?_
                  · refine XS.icmpNo X0.here hx rfl (hb hby d3_58) rfl (XT.ii_ne_f hc8) ?_
                    refine Stand.ldcI X0 hx hown (mvT hZ (hw _ (List.mem_of_getElem? (i := 22) rfl))) rfl (hb hby d3_61) ?_
                    exact cont
                  refine own_end X0 (v := some (.int (65534 : Int32))) (fun h => by rw [Bd.returns] at h; cases h) hlk ?_ (by decide) (by decide) (fun fs hl => retI X0 hx Bd.returns (hb hby d3_63) hl)
                  exact ⟨(by unfold own_bd; first | exact rfl | (simp only [if_neg hc1, if_neg hc2, if_neg hc3, if_neg hc4, if_neg hc5, if_neg hc6, if_neg hc7, if_pos hc8]; first | done | exact rfl)), N0, e0⟩
                ·
                  refine own_go (B := s₁.setTop (mkF m 67 #[.val (.int p1)] [(.int (8 : Int32)), (.int p1)])) (fun tgt cont => ?_) ?_
                  · refine XS.icmpYes X0.here hx rfl (pc0 := 58) (pc' := 64) rfl (hb hby d3_58) rfl (XT.ii_ne_t hc8) (by decide) (by decide) ?_
                    refine XS.iloadN X0.here hx rfl (hb hby d3_64) rfl ?_
                    refine XT.bipushV X0.here hx rfl (8 : Int32) (hb hby d3_65) rfl ?_
                    exact cont
                  by_cases hc9 : p1 = (8 : Int32)
                  ·
                    refine own_go (B := s₁.setTop (mkF m 72 #[.val (.int p1)] [(.int (65536 : Int32))])) (fun tgt cont => ?_) ?_
                    · refine XS.icmpNo X0.here hx rfl (hb hby d3_67) rfl (XT.ii_ne_f hc9) ?_
                      refine Stand.ldcI X0 hx hown (mvT hZ (hw _ (List.mem_of_getElem? (i := 7) rfl))) rfl (hb hby d3_70) ?_
                      exact cont
                    refine own_end X0 (v := some (.int (65536 : Int32))) (fun h => by rw [Bd.returns] at h; cases h) hlk ?_ (by decide) (by decide) (fun fs hl => retI X0 hx Bd.returns (hb hby d3_72) hl)
                    exact ⟨(by unfold own_bd; first | exact rfl | (simp only [if_neg hc1, if_neg hc2, if_neg hc3, if_neg hc4, if_neg hc5, if_neg hc6, if_neg hc7, if_neg hc8, if_pos hc9]; first | done | exact rfl)), N0, e0⟩
                  ·
                    refine own_go (B := s₁.setTop (mkF m 75 #[.val (.int p1)] [(.int (1114112 : Int32))])) (fun tgt cont => ?_) ?_
                    · refine XS.icmpYes X0.here hx rfl (pc0 := 67) (pc' := 73) rfl (hb hby d3_67) rfl (XT.ii_ne_t hc9) (by decide) (by decide) ?_
                      refine Stand.ldcI X0 hx hown (mvT hZ (hw _ (List.mem_of_getElem? (i := 16) rfl))) rfl (hb hby d3_73) ?_
                      exact cont
                    refine own_end X0 (v := some (.int (1114112 : Int32))) (fun h => by rw [Bd.returns] at h; cases h) hlk ?_ (by decide) (by decide) (fun fs hl => retI X0 hx Bd.returns (hb hby d3_75) hl)
                    exact ⟨(by unfold own_bd; first | exact rfl | (simp only [if_neg hc1, if_neg hc2, if_neg hc3, if_neg hc4, if_neg hc5, if_neg hc6, if_neg hc7, if_neg hc8, if_neg hc9]; first | done | exact rfl)), N0, e0⟩
theorem own_in0 (a b c : Int32) : own_in a b c = 0 ↔ (a < b ∨ c < a) := by
  unfold own_in
  by_cases h1 : a < b
  · simp [h1]
  · by_cases h2 : c < a
    · simp [h1, h2]
    · simp [h1, h2]
set_option maxHeartbeats 40000000 in
theorem own_same (c x : Int32) : own_ischar c x = ((if x = 0 then ((if c = (9 : Int32) then (1 : Int32) else (if c = (10 : Int32) then (1 : Int32) else (if c = (13 : Int32) then (1 : Int32) else (if ((own_in c (32 : Int32) (55295 : Int32))) = 0 then (if ((own_in c (57344 : Int32) (65533 : Int32))) = 0 then (if ((own_in c (65536 : Int32) (1114111 : Int32))) = 0 then (0 : Int32) else (1 : Int32)) else (1 : Int32)) else (1 : Int32)))))) else ((if ((own_in c (1 : Int32) (55295 : Int32))) = 0 then (if ((own_in c (57344 : Int32) (65533 : Int32))) = 0 then (if ((own_in c (65536 : Int32) (1114111 : Int32))) = 0 then (0 : Int32) else (1 : Int32)) else (1 : Int32)) else (1 : Int32))))) := by
  unfold own_ischar
  simp only [own_in0]
  simp only [Int32.lt_iff_toInt_lt, ← Int32.toInt_inj]
  have el0 : (0 : Int32).toInt = 0 := rfl
  have el1 : (1 : Int32).toInt = 1 := rfl
  have el9 : (9 : Int32).toInt = 9 := rfl
  have el10 : (10 : Int32).toInt = 10 := rfl
  have el13 : (13 : Int32).toInt = 13 := rfl
  have el32 : (32 : Int32).toInt = 32 := rfl
  have el55295 : (55295 : Int32).toInt = 55295 := rfl
  have el57344 : (57344 : Int32).toInt = 57344 := rfl
  have el65533 : (65533 : Int32).toInt = 65533 := rfl
  have el65536 : (65536 : Int32).toInt = 65536 := rfl
  have el1114111 : (1114111 : Int32).toInt = 1114111 := rfl
  simp only [el0, el1, el9, el10, el13, el32, el55295, el57344, el65533, el65536, el1114111]
  generalize c.toInt = i
  generalize x.toInt = k
  repeat' split
  all_goals first | rfl | (exfalso; omega)
def Q0 (n0 : Nat) (v : Option Value) (h : Heap) (L : List Loc) : Prop := v = some (.int (1 : Int32)) ∧ Fr n0 L
theorem own_pd0 : parseMethodDescriptor "(I)I" = some ⟨[.int], some .int⟩ := by decide +kernel
theorem own_pd1 : parseMethodDescriptor "(III)Z" = some ⟨[.int, .int, .int], some .boolean⟩ := by decide +kernel
theorem own_pd2 : parseMethodDescriptor "(IZ)Z" = some ⟨[.int, .boolean], some .boolean⟩ := by decide +kernel
set_option maxRecDepth 65536 in
set_option maxHeartbeats 40000000 in
theorem rm0 (l : Launch) (Z : State) (a0 : Array Value) (hw : ∀ d ∈ tables_1, d.before a0 Z = true) (ws : List Jvm.Cond) (p1 : Int32) (p2 : Int32) (p3 : Int32) (h0 : Heap) (n0 : Nat) (Z0 : n0 ≤ h0.size)  :
    MetFree l x (head1 (Jvm.Cond.code x code maxLocals ret :: ws) room_1) (fun aa U => aa = #[(.int p1), (.int p2), (.int p3)] ∧ Z.Warmed39 U.vm ∧ U.heap = h0) (fun _ _ _ _ _ => True) (fun _ U o U' => ∃ v L, o = .returned v ∧ Q0 n0 v U'.heap L ∧ FrameEnd U o U' L room_1.cells room_1.slots) := by
  refine MetFree.of_bodySF (plainFor_of_name own_pn0) hisR ?_
  intro p e s m args below meth c s₁ Bd hml0 hP hK
  obtain ⟨rfl, hZ, hh⟩ := hP
  have hx := Bd.exec
  have hby := Bd.bytes
  have hml : c.maxLocals = 6 := hml0
  have hlk : meth.locks = false := BodyLoose.notSynchronized Bd
  have hown : s.vm.findClass "com/example/attlist/attlist/XmlCharsIsCharPinLaw" = some m.cls := findClass_of_methodNamed Bd.named
  have hnm := (name_of_methodNamed Bd.named Bd.method).1
  have X0 : Stand p l e room_1 s m #[(.int p1), (.int p2), (.int p3)] below meth c s₁ [] 0 0 := Stand.of_body Bd
  have e0 : s₁.heap = h0 := by rw [← hh, Bd.state]; rfl
  have N0 := Fr.nil n0
  show own_Go p e below s (Q0 n0) room_1.cells room_1.slots (s₁.setTop (entryFrame m #[(.int p1), (.int p2), (.int p3)] maxLocals))
  refine own_go (B := s₁.setTop (mkF m 0 #[.val (.int p1), .val (.int p2), .val (.int p3), .unset, .unset, .unset] [])) (fun tgt cont => (XT.entry rfl).trans cont) ?_
  refine own_go (B := s₁.setTop (mkF m 3 #[.val (.int p1), .val (.int p2), .val (.int p3), .unset, .unset, .unset] [(.int (p2 &&& (1 : Int32)))])) (fun tgt cont => ?_) ?_
  · refine XS.iloadN X0.here hx rfl (hb hby at_0) rfl ?_
    refine XT.iconstV X0.here hx rfl (1 : Int32) (hb hby at_1) rfl ?_
    refine XS.iand X0.here hx rfl (hb hby at_2) rfl ?_
    exact cont
  have K1 : ∀ (v2 : Int32) (hv2 : v2 = (if (p2 &&& (1 : Int32)) = 0 then (0 : Int32) else (1 : Int32))), own_Go p e below s (Q0 n0) room_1.cells room_1.slots (s₁.setTop (mkF m 11 #[.val (.int p1), .val (.int p2), .val (.int p3), .unset, .unset, .unset] [(.int v2)])) := by
    intro v2 hv2
    refine own_go (B := s₁.setTop (mkF m 15 #[.val (.int p1), .val (.int p2), .val (.int p3), .val (.int v2), .unset, .unset] [(.int (p3 &&& (1 : Int32)))])) (fun tgt cont => ?_) ?_
    · refine XS.istoreN X0.here hx rfl (hb hby at_11) rfl (l' := #[.val (.int p1), .val (.int p2), .val (.int p3), .val (.int v2), .unset, .unset]) rfl ?_
      refine XS.iloadN X0.here hx rfl (hb hby at_12) rfl ?_
      refine XT.iconstV X0.here hx rfl (1 : Int32) (hb hby at_13) rfl ?_
      refine XS.iand X0.here hx rfl (hb hby at_14) rfl ?_
      exact cont
    have K3 : ∀ (T3 : State) (L3 : List Loc) (v4 : Int32) (X3 : Stand p l e room_1 s m #[(.int p1), (.int p2), (.int p3)] below meth c T3 L3 0 0) (e3 : T3.heap = h0) (N3 : Fr n0 L3) (hv4 : v4 = (if (p3 &&& (1 : Int32)) = 0 then p1 else ((((own_bd (((p3.toUInt32 >>> ((1 : Int32) &&& 31).toUInt32).toInt32) % (10 : Int32)))) + ((p1 &&& (3 : Int32)) - (2 : Int32)))))), own_Go p e below s (Q0 n0) room_1.cells room_1.slots (T3.setTop (mkF m 41 #[.val (.int p1), .val (.int p2), .val (.int p3), .val (.int v2), .val (.int v4), .unset] [])) := by
      intro T3 L3 v4 X3 e3 N3 hv4
      refine own_go (B := T3.setTop (mkF m 42 #[.val (.int p1), .val (.int p2), .val (.int p3), .val (.int v2), .val (.int v4), .unset] [(.int v2)])) (fun tgt cont => ?_) ?_
      · refine XS.iloadN X3.here hx rfl (hb hby at_41) rfl ?_
        exact cont
      have K5 : ∀ (T5 : State) (L5 : List Loc) (v6 : Int32) (X5 : Stand p l e room_1 s m #[(.int p1), (.int p2), (.int p3)] below meth c T5 L5 0 0) (e5 : T5.heap = h0) (N5 : Fr n0 L5) (hv6 : v6 = (if v2 = 0 then ((if v4 = (9 : Int32) then (1 : Int32) else (if v4 = (10 : Int32) then (1 : Int32) else (if v4 = (13 : Int32) then (1 : Int32) else (if ((own_in v4 (32 : Int32) (55295 : Int32))) = 0 then (if ((own_in v4 (57344 : Int32) (65533 : Int32))) = 0 then (if ((own_in v4 (65536 : Int32) (1114111 : Int32))) = 0 then (0 : Int32) else (1 : Int32)) else (1 : Int32)) else (1 : Int32)))))) else ((if ((own_in v4 (1 : Int32) (55295 : Int32))) = 0 then (if ((own_in v4 (57344 : Int32) (65533 : Int32))) = 0 then (if ((own_in v4 (65536 : Int32) (1114111 : Int32))) = 0 then (0 : Int32) else (1 : Int32)) else (1 : Int32)) else (1 : Int32))))), own_Go p e below s (Q0 n0) room_1.cells room_1.slots (T5.setTop (mkF m 154 #[.val (.int p1), .val (.int p2), .val (.int p3), .val (.int v2), .val (.int v4), .val (.int v6)] [])) := by
        intro T5 L5 v6 X5 e5 N5 hv6
        refine own_go (B := T5.setTop (mkF m 157 #[.val (.int p1), .val (.int p2), .val (.int p3), .val (.int v2), .val (.int v4), .val (.int v6)] [(.int v2), (.int v4)])) (fun tgt cont => ?_) ?_
        · refine XS.iload X5.here hx rfl (hb hby at_154) rfl ?_
          refine XS.iloadN X5.here hx rfl (hb hby at_156) rfl ?_
          exact cont
        -- pc 157: XmlChars.isChar
        obtain ⟨_, _, ⟨T7, L7, k7, n7⟩, -, X7, ⟨Lc7, hQ7, l7, y7, z7⟩, st7⟩ := Jvm.LawKit.callS X5 hx (y := (⟨"com/example/attlist/attlist/XmlChars", "isChar", "(IZ)Z"⟩ : MethodName)) hown (mvT hZ (hw _ (List.mem_of_getElem? (i := 9) rfl))) (mvT hZ (hw _ (List.mem_of_getElem? (i := 10) rfl))) (mvT hZ (hw _ (List.mem_of_getElem? (i := 11) rfl))) (mvT hZ (hw _ (List.mem_of_getElem? (i := 12) rfl))) (by decide) (backOf (W := 0) (rm2 l Z a0 hw [] v4 v2 h0 n0 Z0 ) hZ (hw _ (List.mem_of_getElem? (i := 12) rfl)) (hw _ (List.mem_of_getElem? (i := 11) rfl)) (by decide) (by decide)) (g := (mkF m 157 #[.val (.int p1), .val (.int p2), .val (.int p3), .val (.int v2), .val (.int v4), .val (.int v6)] [(.int v2), (.int v4)])) rfl (by rw [hml]; rfl) (argsL := [(.int v4), (.int v2)]) (rest := []) (lenOf own_pd2 rfl) rfl (by show 2 * 0 + _ ≤ _; exact Nat.le_of_eq rfl) (hb hby at_157) (fun _ _ => ⟨rfl, e5, (by decide : 0 + 0 ≤ _), (by decide : 0 + 0 ≤ _)⟩)
        dsimp only [Pt.U, Pt.locs, Pt.cells, Pt.slots] at X7 l7 y7 z7 st7 hQ7
        subst l7 y7 z7
        obtain ⟨rfl, N7q, e7⟩ := hQ7
        have N7 := Fr.app N5 N7q
        refine own_go (fun tgt cont => st7 tgt cont) ?_
        show own_Go p e below s (Q0 n0) room_1.cells room_1.slots (T7.setTop (mkF m 160 #[.val (.int p1), .val (.int p2), .val (.int p3), .val (.int v2), .val (.int v4), .val (.int v6)] [(.int (own_ischar v4 v2))]))
        generalize hr8 : (own_ischar v4 v2) = r8
        refine own_go (B := T7.setTop (mkF m 162 #[.val (.int p1), .val (.int p2), .val (.int p3), .val (.int v2), .val (.int v4), .val (.int v6)] [(.int v6), (.int r8)])) (fun tgt cont => ?_) ?_
        · refine XS.iload X7.here hx rfl (hb hby at_160) rfl ?_
          exact cont
        by_cases hc9 : r8 = v6
        ·
          refine own_go (B := T7.setTop (mkF m 170 #[.val (.int p1), .val (.int p2), .val (.int p3), .val (.int v2), .val (.int v4), .val (.int v6)] [(.int (1 : Int32))])) (fun tgt cont => ?_) ?_
          · refine XS.icmpNo X7.here hx rfl (hb hby at_162) rfl (XT.ii_ne_f hc9) ?_
            refine XT.iconstV X7.here hx rfl (1 : Int32) (hb hby at_165) rfl ?_
            refine XS.goto X7.here hx rfl (pc0 := 166) (pc' := 170) rfl (hb hby at_166) (by decide) (by decide) ?_
            exact cont
          refine own_end X7 (v := some (.int (1 : Int32))) (fun h => by rw [Bd.returns] at h; cases h) hlk ?_ (by decide) (by decide) (fun fs hl => retN X7 hx (t := .boolean) Bd.returns (by simp) (hb hby at_170) hl)
          exact ⟨rfl, N7⟩
        ·
          refine own_go (B := T7.setTop (mkF m 170 #[.val (.int p1), .val (.int p2), .val (.int p3), .val (.int v2), .val (.int v4), .val (.int v6)] [(.int (0 : Int32))])) (fun tgt cont => ?_) ?_
          · refine XS.icmpYes X7.here hx rfl (pc0 := 162) (pc' := 169) rfl (hb hby at_162) rfl (XT.ii_ne_t hc9) (by decide) (by decide) ?_
            refine XT.iconstV X7.here hx rfl (0 : Int32) (hb hby at_169) rfl ?_
            exact cont
          refine own_end X7 (v := some (.int (0 : Int32))) (fun h => by rw [Bd.returns] at h; cases h) hlk ?_ (by decide) (by decide) (fun fs hl => retN X7 hx (t := .boolean) Bd.returns (by simp) (hb hby at_170) hl)
          refine ⟨?_, N7⟩
          subst hr8 hv6
          exact absurd (own_same v4 v2) hc9
      by_cases hc10 : v2 = 0
      ·
        refine own_go (B := T3.setTop (mkF m 94 #[.val (.int p1), .val (.int p2), .val (.int p3), .val (.int v2), .val (.int v4), .unset] [(.int (9 : Int32)), (.int v4)])) (fun tgt cont => ?_) ?_
        · refine XS.ifYes X3.here hx rfl (pc0 := 42) (pc' := 90) rfl (hb hby at_42) rfl (XT.i0_eq_t hc10) (by decide) (by decide) ?_
          refine XS.iload X3.here hx rfl (hb hby at_90) rfl ?_
          refine XT.bipushV X3.here hx rfl (9 : Int32) (hb hby at_92) rfl ?_
          exact cont
        have K11 : ∀ (T11 : State) (L11 : List Loc) (v12 : Int32) (X11 : Stand p l e room_1 s m #[(.int p1), (.int p2), (.int p3)] below meth c T11 L11 0 0) (e11 : T11.heap = h0) (N11 : Fr n0 L11) (hv12 : v12 = (if v4 = (9 : Int32) then (1 : Int32) else (if v4 = (10 : Int32) then (1 : Int32) else (if v4 = (13 : Int32) then (1 : Int32) else (if ((own_in v4 (32 : Int32) (55295 : Int32))) = 0 then (if ((own_in v4 (57344 : Int32) (65533 : Int32))) = 0 then (if ((own_in v4 (65536 : Int32) (1114111 : Int32))) = 0 then (0 : Int32) else (1 : Int32)) else (1 : Int32)) else (1 : Int32)))))), own_Go p e below s (Q0 n0) room_1.cells room_1.slots (T11.setTop (mkF m 152 #[.val (.int p1), .val (.int p2), .val (.int p3), .val (.int v2), .val (.int v4), .unset] [(.int v12)])) := by
          intro T11 L11 v12 X11 e11 N11 hv12
          refine own_go (B := T11.setTop (mkF m 154 #[.val (.int p1), .val (.int p2), .val (.int p3), .val (.int v2), .val (.int v4), .val (.int v12)] [])) (fun tgt cont => ?_) ?_
          · refine XS.istore X11.here hx rfl (hb hby at_152) rfl (l' := #[.val (.int p1), .val (.int p2), .val (.int p3), .val (.int v2), .val (.int v4), .val (.int v12)]) rfl ?_
            exact cont
          exact K5 _ _ v12 (own_wide X11 (by decide) (by decide)) e11 N11 (by subst hv12; simp only [if_pos hc10])
        by_cases hc13 : v4 = (9 : Int32)
        ·
          refine own_go (B := T3.setTop (mkF m 152 #[.val (.int p1), .val (.int p2), .val (.int p3), .val (.int v2), .val (.int v4), .unset] [(.int (1 : Int32))])) (fun tgt cont => ?_) ?_
          · refine XS.icmpYes X3.here hx rfl (pc0 := 94) (pc' := 147) rfl (hb hby at_94) rfl (XT.ii_eq_t hc13) (by decide) (by decide) ?_
            refine XT.iconstV X3.here hx rfl (1 : Int32) (hb hby at_147) rfl ?_
            refine XS.goto X3.here hx rfl (pc0 := 148) (pc' := 152) rfl (hb hby at_148) (by decide) (by decide) ?_
            exact cont
          exact K11 _ _ (1 : Int32) (own_wide X3 (by decide) (by decide)) e3 N3 (by simp only [if_pos hc13])
        ·
          refine own_go (B := T3.setTop (mkF m 101 #[.val (.int p1), .val (.int p2), .val (.int p3), .val (.int v2), .val (.int v4), .unset] [(.int (10 : Int32)), (.int v4)])) (fun tgt cont => ?_) ?_
          · refine XS.icmpNo X3.here hx rfl (hb hby at_94) rfl (XT.ii_eq_f hc13) ?_
            refine XS.iload X3.here hx rfl (hb hby at_97) rfl ?_
            refine XT.bipushV X3.here hx rfl (10 : Int32) (hb hby at_99) rfl ?_
            exact cont
          by_cases hc14 : v4 = (10 : Int32)
          ·
            refine own_go (B := T3.setTop (mkF m 152 #[.val (.int p1), .val (.int p2), .val (.int p3), .val (.int v2), .val (.int v4), .unset] [(.int (1 : Int32))])) (fun tgt cont => ?_) ?_
            · refine XS.icmpYes X3.here hx rfl (pc0 := 101) (pc' := 147) rfl (hb hby at_101) rfl (XT.ii_eq_t hc14) (by decide) (by decide) ?_
              refine XT.iconstV X3.here hx rfl (1 : Int32) (hb hby at_147) rfl ?_
              refine XS.goto X3.here hx rfl (pc0 := 148) (pc' := 152) rfl (hb hby at_148) (by decide) (by decide) ?_
              exact cont
            exact K11 _ _ (1 : Int32) (own_wide X3 (by decide) (by decide)) e3 N3 (by simp only [if_neg hc13, if_pos hc14])
          ·
            refine own_go (B := T3.setTop (mkF m 108 #[.val (.int p1), .val (.int p2), .val (.int p3), .val (.int v2), .val (.int v4), .unset] [(.int (13 : Int32)), (.int v4)])) (fun tgt cont => ?_) ?_
            · refine XS.icmpNo X3.here hx rfl (hb hby at_101) rfl (XT.ii_eq_f hc14) ?_
              refine XS.iload X3.here hx rfl (hb hby at_104) rfl ?_
              refine XT.bipushV X3.here hx rfl (13 : Int32) (hb hby at_106) rfl ?_
              exact cont
            by_cases hc15 : v4 = (13 : Int32)
            ·
              refine own_go (B := T3.setTop (mkF m 152 #[.val (.int p1), .val (.int p2), .val (.int p3), .val (.int v2), .val (.int v4), .unset] [(.int (1 : Int32))])) (fun tgt cont => ?_) ?_
              · refine XS.icmpYes X3.here hx rfl (pc0 := 108) (pc' := 147) rfl (hb hby at_108) rfl (XT.ii_eq_t hc15) (by decide) (by decide) ?_
                refine XT.iconstV X3.here hx rfl (1 : Int32) (hb hby at_147) rfl ?_
                refine XS.goto X3.here hx rfl (pc0 := 148) (pc' := 152) rfl (hb hby at_148) (by decide) (by decide) ?_
                exact cont
              exact K11 _ _ (1 : Int32) (own_wide X3 (by decide) (by decide)) e3 N3 (by simp only [if_neg hc13, if_neg hc14, if_pos hc15])
            ·
              refine own_go (B := T3.setTop (mkF m 117 #[.val (.int p1), .val (.int p2), .val (.int p3), .val (.int v2), .val (.int v4), .unset] [(.int (55295 : Int32)), (.int (32 : Int32)), (.int v4)])) (fun tgt cont => ?_) ?_
              · refine XS.icmpNo X3.here hx rfl (hb hby at_108) rfl (XT.ii_eq_f hc15) ?_
                refine XS.iload X3.here hx rfl (hb hby at_111) rfl ?_
                refine XT.bipushV X3.here hx rfl (32 : Int32) (hb hby at_113) rfl ?_
                refine Stand.ldcI X3 hx hown (mvT hZ (hw _ (List.mem_of_getElem? (i := 0) rfl))) rfl (hb hby at_115) ?_
                exact cont
              -- pc 117: XmlCharsIsCharPinLaw.in
              obtain ⟨_, _, ⟨T16, L16, k16, n16⟩, -, X16, ⟨Lc16, hQ16, l16, y16, z16⟩, st16⟩ := Jvm.LawKit.callS X3 hx (y := (⟨"com/example/attlist/attlist/XmlCharsIsCharPinLaw", "in", "(III)Z"⟩ : MethodName)) hown (mvT hZ (hw _ (List.mem_of_getElem? (i := 1) rfl))) (mvT hZ (hw _ (List.mem_of_getElem? (i := 2) rfl))) (mvT hZ (hw _ (List.mem_of_getElem? (i := 3) rfl))) (mvT hZ (hw _ (List.mem_of_getElem? (i := 4) rfl))) (by decide) (backOf (W := 0) (rm1 l Z a0 hw [] v4 (32 : Int32) (55295 : Int32) h0 n0 Z0 ) hZ (hw _ (List.mem_of_getElem? (i := 4) rfl)) (hw _ (List.mem_of_getElem? (i := 3) rfl)) (by decide) (by decide)) (g := (mkF m 117 #[.val (.int p1), .val (.int p2), .val (.int p3), .val (.int v2), .val (.int v4), .unset] [(.int (55295 : Int32)), (.int (32 : Int32)), (.int v4)])) rfl (by rw [hml]; rfl) (argsL := [(.int v4), (.int (32 : Int32)), (.int (55295 : Int32))]) (rest := []) (lenOf own_pd1 rfl) rfl (by show 2 * 0 + _ ≤ _; exact Nat.le_of_eq rfl) (hb hby at_117) (fun _ _ => ⟨rfl, e3, (by decide : 0 + 0 ≤ _), (by decide : 0 + 0 ≤ _)⟩)
              dsimp only [Pt.U, Pt.locs, Pt.cells, Pt.slots] at X16 l16 y16 z16 st16 hQ16
              subst l16 y16 z16
              obtain ⟨rfl, N16q, e16⟩ := hQ16
              have N16 := Fr.app N3 N16q
              refine own_go (fun tgt cont => st16 tgt cont) ?_
              show own_Go p e below s (Q0 n0) room_1.cells room_1.slots (T16.setTop (mkF m 120 #[.val (.int p1), .val (.int p2), .val (.int p3), .val (.int v2), .val (.int v4), .unset] [(.int (own_in v4 (32 : Int32) (55295 : Int32)))]))
              generalize hr17 : (own_in v4 (32 : Int32) (55295 : Int32)) = r17
              by_cases hc18 : r17 = 0
              ·
                refine own_go (B := T16.setTop (mkF m 129 #[.val (.int p1), .val (.int p2), .val (.int p3), .val (.int v2), .val (.int v4), .unset] [(.int (65533 : Int32)), (.int (57344 : Int32)), (.int v4)])) (fun tgt cont => ?_) ?_
                · refine XS.ifNo X16.here hx rfl (hb hby at_120) rfl (XT.i0_ne_f hc18) ?_
                  refine XS.iload X16.here hx rfl (hb hby at_123) rfl ?_
                  refine Stand.ldcI X16 hx hown (mvT hZ (hw _ (List.mem_of_getElem? (i := 5) rfl))) rfl (hb hby at_125) ?_
                  refine Stand.ldcI X16 hx hown (mvT hZ (hw _ (List.mem_of_getElem? (i := 6) rfl))) rfl (hb hby at_127) ?_
                  exact cont
                -- pc 129: XmlCharsIsCharPinLaw.in
                obtain ⟨_, _, ⟨T19, L19, k19, n19⟩, -, X19, ⟨Lc19, hQ19, l19, y19, z19⟩, st19⟩ := Jvm.LawKit.callS X16 hx (y := (⟨"com/example/attlist/attlist/XmlCharsIsCharPinLaw", "in", "(III)Z"⟩ : MethodName)) hown (mvT hZ (hw _ (List.mem_of_getElem? (i := 1) rfl))) (mvT hZ (hw _ (List.mem_of_getElem? (i := 2) rfl))) (mvT hZ (hw _ (List.mem_of_getElem? (i := 3) rfl))) (mvT hZ (hw _ (List.mem_of_getElem? (i := 4) rfl))) (by decide) (backOf (W := 0) (rm1 l Z a0 hw [] v4 (57344 : Int32) (65533 : Int32) h0 n0 Z0 ) hZ (hw _ (List.mem_of_getElem? (i := 4) rfl)) (hw _ (List.mem_of_getElem? (i := 3) rfl)) (by decide) (by decide)) (g := (mkF m 129 #[.val (.int p1), .val (.int p2), .val (.int p3), .val (.int v2), .val (.int v4), .unset] [(.int (65533 : Int32)), (.int (57344 : Int32)), (.int v4)])) rfl (by rw [hml]; rfl) (argsL := [(.int v4), (.int (57344 : Int32)), (.int (65533 : Int32))]) (rest := []) (lenOf own_pd1 rfl) rfl (by show 2 * 0 + _ ≤ _; exact Nat.le_of_eq rfl) (hb hby at_129) (fun _ _ => ⟨rfl, e16, (by decide : 0 + 0 + 0 ≤ _), (by decide : 0 + 0 + 0 ≤ _)⟩)
                dsimp only [Pt.U, Pt.locs, Pt.cells, Pt.slots] at X19 l19 y19 z19 st19 hQ19
                subst l19 y19 z19
                obtain ⟨rfl, N19q, e19⟩ := hQ19
                have N19 := Fr.app N16 N19q
                refine own_go (fun tgt cont => st19 tgt cont) ?_
                show own_Go p e below s (Q0 n0) room_1.cells room_1.slots (T19.setTop (mkF m 132 #[.val (.int p1), .val (.int p2), .val (.int p3), .val (.int v2), .val (.int v4), .unset] [(.int (own_in v4 (57344 : Int32) (65533 : Int32)))]))
                generalize hr20 : (own_in v4 (57344 : Int32) (65533 : Int32)) = r20
                by_cases hc21 : r20 = 0
                ·
                  refine own_go (B := T19.setTop (mkF m 141 #[.val (.int p1), .val (.int p2), .val (.int p3), .val (.int v2), .val (.int v4), .unset] [(.int (1114111 : Int32)), (.int (65536 : Int32)), (.int v4)])) (fun tgt cont => ?_) ?_
                  · refine XS.ifNo X19.here hx rfl (hb hby at_132) rfl (XT.i0_ne_f hc21) ?_
                    refine XS.iload X19.here hx rfl (hb hby at_135) rfl ?_
                    refine Stand.ldcI X19 hx hown (mvT hZ (hw _ (List.mem_of_getElem? (i := 7) rfl))) rfl (hb hby at_137) ?_
                    refine Stand.ldcI X19 hx hown (mvT hZ (hw _ (List.mem_of_getElem? (i := 8) rfl))) rfl (hb hby at_139) ?_
                    exact cont
                  -- pc 141: XmlCharsIsCharPinLaw.in
                  obtain ⟨_, _, ⟨T22, L22, k22, n22⟩, -, X22, ⟨Lc22, hQ22, l22, y22, z22⟩, st22⟩ := Jvm.LawKit.callS X19 hx (y := (⟨"com/example/attlist/attlist/XmlCharsIsCharPinLaw", "in", "(III)Z"⟩ : MethodName)) hown (mvT hZ (hw _ (List.mem_of_getElem? (i := 1) rfl))) (mvT hZ (hw _ (List.mem_of_getElem? (i := 2) rfl))) (mvT hZ (hw _ (List.mem_of_getElem? (i := 3) rfl))) (mvT hZ (hw _ (List.mem_of_getElem? (i := 4) rfl))) (by decide) (backOf (W := 0) (rm1 l Z a0 hw [] v4 (65536 : Int32) (1114111 : Int32) h0 n0 Z0 ) hZ (hw _ (List.mem_of_getElem? (i := 4) rfl)) (hw _ (List.mem_of_getElem? (i := 3) rfl)) (by decide) (by decide)) (g := (mkF m 141 #[.val (.int p1), .val (.int p2), .val (.int p3), .val (.int v2), .val (.int v4), .unset] [(.int (1114111 : Int32)), (.int (65536 : Int32)), (.int v4)])) rfl (by rw [hml]; rfl) (argsL := [(.int v4), (.int (65536 : Int32)), (.int (1114111 : Int32))]) (rest := []) (lenOf own_pd1 rfl) rfl (by show 2 * 0 + _ ≤ _; exact Nat.le_of_eq rfl) (hb hby at_141) (fun _ _ => ⟨rfl, e19, (by decide : 0 + 0 + 0 + 0 ≤ _), (by decide : 0 + 0 + 0 + 0 ≤ _)⟩)
                  dsimp only [Pt.U, Pt.locs, Pt.cells, Pt.slots] at X22 l22 y22 z22 st22 hQ22
                  subst l22 y22 z22
                  obtain ⟨rfl, N22q, e22⟩ := hQ22
                  have N22 := Fr.app N19 N22q
                  refine own_go (fun tgt cont => st22 tgt cont) ?_
                  show own_Go p e below s (Q0 n0) room_1.cells room_1.slots (T22.setTop (mkF m 144 #[.val (.int p1), .val (.int p2), .val (.int p3), .val (.int v2), .val (.int v4), .unset] [(.int (own_in v4 (65536 : Int32) (1114111 : Int32)))]))
                  generalize hr23 : (own_in v4 (65536 : Int32) (1114111 : Int32)) = r23
                  by_cases hc24 : r23 = 0
                  ·
                    refine own_go (B := T22.setTop (mkF m 152 #[.val (.int p1), .val (.int p2), .val (.int p3), .val (.int v2), .val (.int v4), .unset] [(.int (0 : Int32))])) (fun tgt cont => ?_) ?_
                    · refine XS.ifYes X22.here hx rfl (pc0 := 144) (pc' := 151) rfl (hb hby at_144) rfl (XT.i0_eq_t hc24) (by decide) (by decide) ?_
                      refine XT.iconstV X22.here hx rfl (0 : Int32) (hb hby at_151) rfl ?_
                      exact cont
                    exact K11 _ _ (0 : Int32) (own_wide X22 (by decide) (by decide)) e22 N22 (by subst hr17 hr20 hr23; simp only [if_neg hc13, if_neg hc14, if_neg hc15, if_pos hc18, if_pos hc21, if_pos hc24])
                  ·
                    refine own_go (B := T22.setTop (mkF m 152 #[.val (.int p1), .val (.int p2), .val (.int p3), .val (.int v2), .val (.int v4), .unset] [(.int (1 : Int32))])) (fun tgt cont => ?_) ?_
                    · refine XS.ifNo X22.here hx rfl (hb hby at_144) rfl (XT.i0_eq_f hc24) ?_
                      refine XT.iconstV X22.here hx rfl (1 : Int32) (hb hby at_147) rfl ?_
                      refine XS.goto X22.here hx rfl (pc0 := 148) (pc' := 152) rfl (hb hby at_148) (by decide) (by decide) ?_
                      exact cont
                    exact K11 _ _ (1 : Int32) (own_wide X22 (by decide) (by decide)) e22 N22 (by subst hr17 hr20 hr23; simp only [if_neg hc13, if_neg hc14, if_neg hc15, if_pos hc18, if_pos hc21, if_neg hc24])
                ·
                  refine own_go (B := T19.setTop (mkF m 152 #[.val (.int p1), .val (.int p2), .val (.int p3), .val (.int v2), .val (.int v4), .unset] [(.int (1 : Int32))])) (fun tgt cont => ?_) ?_
                  · refine XS.ifYes X19.here hx rfl (pc0 := 132) (pc' := 147) rfl (hb hby at_132) rfl (XT.i0_ne_t hc21) (by decide) (by decide) ?_
                    refine XT.iconstV X19.here hx rfl (1 : Int32) (hb hby at_147) rfl ?_
                    refine XS.goto X19.here hx rfl (pc0 := 148) (pc' := 152) rfl (hb hby at_148) (by decide) (by decide) ?_
                    exact cont
                  exact K11 _ _ (1 : Int32) (own_wide X19 (by decide) (by decide)) e19 N19 (by subst hr17 hr20; simp only [if_neg hc13, if_neg hc14, if_neg hc15, if_pos hc18, if_neg hc21])
              ·
                refine own_go (B := T16.setTop (mkF m 152 #[.val (.int p1), .val (.int p2), .val (.int p3), .val (.int v2), .val (.int v4), .unset] [(.int (1 : Int32))])) (fun tgt cont => ?_) ?_
                · refine XS.ifYes X16.here hx rfl (pc0 := 120) (pc' := 147) rfl (hb hby at_120) rfl (XT.i0_ne_t hc18) (by decide) (by decide) ?_
                  refine XT.iconstV X16.here hx rfl (1 : Int32) (hb hby at_147) rfl ?_
                  refine XS.goto X16.here hx rfl (pc0 := 148) (pc' := 152) rfl (hb hby at_148) (by decide) (by decide) ?_
                  exact cont
                exact K11 _ _ (1 : Int32) (own_wide X16 (by decide) (by decide)) e16 N16 (by subst hr17; simp only [if_neg hc13, if_neg hc14, if_neg hc15, if_neg hc18])
      ·
        refine own_go (B := T3.setTop (mkF m 50 #[.val (.int p1), .val (.int p2), .val (.int p3), .val (.int v2), .val (.int v4), .unset] [(.int (55295 : Int32)), (.int (1 : Int32)), (.int v4)])) (fun tgt cont => ?_) ?_
        · refine XS.ifNo X3.here hx rfl (hb hby at_42) rfl (XT.i0_eq_f hc10) ?_
          refine XS.iload X3.here hx rfl (hb hby at_45) rfl ?_
          refine XT.iconstV X3.here hx rfl (1 : Int32) (hb hby at_47) rfl ?_
          refine Stand.ldcI X3 hx hown (mvT hZ (hw _ (List.mem_of_getElem? (i := 0) rfl))) rfl (hb hby at_48) ?_
          exact cont
        -- pc 50: XmlCharsIsCharPinLaw.in
        obtain ⟨_, _, ⟨T25, L25, k25, n25⟩, -, X25, ⟨Lc25, hQ25, l25, y25, z25⟩, st25⟩ := Jvm.LawKit.callS X3 hx (y := (⟨"com/example/attlist/attlist/XmlCharsIsCharPinLaw", "in", "(III)Z"⟩ : MethodName)) hown (mvT hZ (hw _ (List.mem_of_getElem? (i := 1) rfl))) (mvT hZ (hw _ (List.mem_of_getElem? (i := 2) rfl))) (mvT hZ (hw _ (List.mem_of_getElem? (i := 3) rfl))) (mvT hZ (hw _ (List.mem_of_getElem? (i := 4) rfl))) (by decide) (backOf (W := 0) (rm1 l Z a0 hw [] v4 (1 : Int32) (55295 : Int32) h0 n0 Z0 ) hZ (hw _ (List.mem_of_getElem? (i := 4) rfl)) (hw _ (List.mem_of_getElem? (i := 3) rfl)) (by decide) (by decide)) (g := (mkF m 50 #[.val (.int p1), .val (.int p2), .val (.int p3), .val (.int v2), .val (.int v4), .unset] [(.int (55295 : Int32)), (.int (1 : Int32)), (.int v4)])) rfl (by rw [hml]; rfl) (argsL := [(.int v4), (.int (1 : Int32)), (.int (55295 : Int32))]) (rest := []) (lenOf own_pd1 rfl) rfl (by show 2 * 0 + _ ≤ _; exact Nat.le_of_eq rfl) (hb hby at_50) (fun _ _ => ⟨rfl, e3, (by decide : 0 + 0 ≤ _), (by decide : 0 + 0 ≤ _)⟩)
        dsimp only [Pt.U, Pt.locs, Pt.cells, Pt.slots] at X25 l25 y25 z25 st25 hQ25
        subst l25 y25 z25
        obtain ⟨rfl, N25q, e25⟩ := hQ25
        have N25 := Fr.app N3 N25q
        refine own_go (fun tgt cont => st25 tgt cont) ?_
        show own_Go p e below s (Q0 n0) room_1.cells room_1.slots (T25.setTop (mkF m 53 #[.val (.int p1), .val (.int p2), .val (.int p3), .val (.int v2), .val (.int v4), .unset] [(.int (own_in v4 (1 : Int32) (55295 : Int32)))]))
        generalize hr26 : (own_in v4 (1 : Int32) (55295 : Int32)) = r26
        have K27 : ∀ (T27 : State) (L27 : List Loc) (v28 : Int32) (X27 : Stand p l e room_1 s m #[(.int p1), (.int p2), (.int p3)] below meth c T27 L27 0 0) (e27 : T27.heap = h0) (N27 : Fr n0 L27) (hv28 : v28 = (if r26 = 0 then (if ((own_in v4 (57344 : Int32) (65533 : Int32))) = 0 then (if ((own_in v4 (65536 : Int32) (1114111 : Int32))) = 0 then (0 : Int32) else (1 : Int32)) else (1 : Int32)) else (1 : Int32))), own_Go p e below s (Q0 n0) room_1.cells room_1.slots (T27.setTop (mkF m 85 #[.val (.int p1), .val (.int p2), .val (.int p3), .val (.int v2), .val (.int v4), .unset] [(.int v28)])) := by
          intro T27 L27 v28 X27 e27 N27 hv28
          refine own_go (B := T27.setTop (mkF m 154 #[.val (.int p1), .val (.int p2), .val (.int p3), .val (.int v2), .val (.int v4), .val (.int v28)] [])) (fun tgt cont => ?_) ?_
          · refine XS.istore X27.here hx rfl (hb hby at_85) rfl (l' := #[.val (.int p1), .val (.int p2), .val (.int p3), .val (.int v2), .val (.int v4), .val (.int v28)]) rfl ?_
            refine XS.goto X27.here hx rfl (pc0 := 87) (pc' := 154) rfl (hb hby at_87) (by decide) (by decide) ?_
            exact cont
          exact K5 _ _ v28 (own_wide X27 (by decide) (by decide)) e27 N27 (by subst hr26 hv28; simp only [if_neg hc10])
        by_cases hc29 : r26 = 0
        ·
          refine own_go (B := T25.setTop (mkF m 62 #[.val (.int p1), .val (.int p2), .val (.int p3), .val (.int v2), .val (.int v4), .unset] [(.int (65533 : Int32)), (.int (57344 : Int32)), (.int v4)])) (fun tgt cont => ?_) ?_
          · refine XS.ifNo X25.here hx rfl (hb hby at_53) rfl (XT.i0_ne_f hc29) ?_
            refine XS.iload X25.here hx rfl (hb hby at_56) rfl ?_
            refine Stand.ldcI X25 hx hown (mvT hZ (hw _ (List.mem_of_getElem? (i := 5) rfl))) rfl (hb hby at_58) ?_
            refine Stand.ldcI X25 hx hown (mvT hZ (hw _ (List.mem_of_getElem? (i := 6) rfl))) rfl (hb hby at_60) ?_
            exact cont
          -- pc 62: XmlCharsIsCharPinLaw.in
          obtain ⟨_, _, ⟨T30, L30, k30, n30⟩, -, X30, ⟨Lc30, hQ30, l30, y30, z30⟩, st30⟩ := Jvm.LawKit.callS X25 hx (y := (⟨"com/example/attlist/attlist/XmlCharsIsCharPinLaw", "in", "(III)Z"⟩ : MethodName)) hown (mvT hZ (hw _ (List.mem_of_getElem? (i := 1) rfl))) (mvT hZ (hw _ (List.mem_of_getElem? (i := 2) rfl))) (mvT hZ (hw _ (List.mem_of_getElem? (i := 3) rfl))) (mvT hZ (hw _ (List.mem_of_getElem? (i := 4) rfl))) (by decide) (backOf (W := 0) (rm1 l Z a0 hw [] v4 (57344 : Int32) (65533 : Int32) h0 n0 Z0 ) hZ (hw _ (List.mem_of_getElem? (i := 4) rfl)) (hw _ (List.mem_of_getElem? (i := 3) rfl)) (by decide) (by decide)) (g := (mkF m 62 #[.val (.int p1), .val (.int p2), .val (.int p3), .val (.int v2), .val (.int v4), .unset] [(.int (65533 : Int32)), (.int (57344 : Int32)), (.int v4)])) rfl (by rw [hml]; rfl) (argsL := [(.int v4), (.int (57344 : Int32)), (.int (65533 : Int32))]) (rest := []) (lenOf own_pd1 rfl) rfl (by show 2 * 0 + _ ≤ _; exact Nat.le_of_eq rfl) (hb hby at_62) (fun _ _ => ⟨rfl, e25, (by decide : 0 + 0 + 0 ≤ _), (by decide : 0 + 0 + 0 ≤ _)⟩)
          dsimp only [Pt.U, Pt.locs, Pt.cells, Pt.slots] at X30 l30 y30 z30 st30 hQ30
          subst l30 y30 z30
          obtain ⟨rfl, N30q, e30⟩ := hQ30
          have N30 := Fr.app N25 N30q
          refine own_go (fun tgt cont => st30 tgt cont) ?_
          show own_Go p e below s (Q0 n0) room_1.cells room_1.slots (T30.setTop (mkF m 65 #[.val (.int p1), .val (.int p2), .val (.int p3), .val (.int v2), .val (.int v4), .unset] [(.int (own_in v4 (57344 : Int32) (65533 : Int32)))]))
          generalize hr31 : (own_in v4 (57344 : Int32) (65533 : Int32)) = r31
          by_cases hc32 : r31 = 0
          ·
            refine own_go (B := T30.setTop (mkF m 74 #[.val (.int p1), .val (.int p2), .val (.int p3), .val (.int v2), .val (.int v4), .unset] [(.int (1114111 : Int32)), (.int (65536 : Int32)), (.int v4)])) (fun tgt cont => ?_) ?_
            · refine XS.ifNo X30.here hx rfl (hb hby at_65) rfl (XT.i0_ne_f hc32) ?_
              refine XS.iload X30.here hx rfl (hb hby at_68) rfl ?_
              refine Stand.ldcI X30 hx hown (mvT hZ (hw _ (List.mem_of_getElem? (i := 7) rfl))) rfl (hb hby at_70) ?_
              refine Stand.ldcI X30 hx hown (mvT hZ (hw _ (List.mem_of_getElem? (i := 8) rfl))) rfl (hb hby at_72) ?_
              exact cont
            -- pc 74: XmlCharsIsCharPinLaw.in
            obtain ⟨_, _, ⟨T33, L33, k33, n33⟩, -, X33, ⟨Lc33, hQ33, l33, y33, z33⟩, st33⟩ := Jvm.LawKit.callS X30 hx (y := (⟨"com/example/attlist/attlist/XmlCharsIsCharPinLaw", "in", "(III)Z"⟩ : MethodName)) hown (mvT hZ (hw _ (List.mem_of_getElem? (i := 1) rfl))) (mvT hZ (hw _ (List.mem_of_getElem? (i := 2) rfl))) (mvT hZ (hw _ (List.mem_of_getElem? (i := 3) rfl))) (mvT hZ (hw _ (List.mem_of_getElem? (i := 4) rfl))) (by decide) (backOf (W := 0) (rm1 l Z a0 hw [] v4 (65536 : Int32) (1114111 : Int32) h0 n0 Z0 ) hZ (hw _ (List.mem_of_getElem? (i := 4) rfl)) (hw _ (List.mem_of_getElem? (i := 3) rfl)) (by decide) (by decide)) (g := (mkF m 74 #[.val (.int p1), .val (.int p2), .val (.int p3), .val (.int v2), .val (.int v4), .unset] [(.int (1114111 : Int32)), (.int (65536 : Int32)), (.int v4)])) rfl (by rw [hml]; rfl) (argsL := [(.int v4), (.int (65536 : Int32)), (.int (1114111 : Int32))]) (rest := []) (lenOf own_pd1 rfl) rfl (by show 2 * 0 + _ ≤ _; exact Nat.le_of_eq rfl) (hb hby at_74) (fun _ _ => ⟨rfl, e30, (by decide : 0 + 0 + 0 + 0 ≤ _), (by decide : 0 + 0 + 0 + 0 ≤ _)⟩)
            dsimp only [Pt.U, Pt.locs, Pt.cells, Pt.slots] at X33 l33 y33 z33 st33 hQ33
            subst l33 y33 z33
            obtain ⟨rfl, N33q, e33⟩ := hQ33
            have N33 := Fr.app N30 N33q
            refine own_go (fun tgt cont => st33 tgt cont) ?_
            show own_Go p e below s (Q0 n0) room_1.cells room_1.slots (T33.setTop (mkF m 77 #[.val (.int p1), .val (.int p2), .val (.int p3), .val (.int v2), .val (.int v4), .unset] [(.int (own_in v4 (65536 : Int32) (1114111 : Int32)))]))
            generalize hr34 : (own_in v4 (65536 : Int32) (1114111 : Int32)) = r34
            by_cases hc35 : r34 = 0
            ·
              refine own_go (B := T33.setTop (mkF m 85 #[.val (.int p1), .val (.int p2), .val (.int p3), .val (.int v2), .val (.int v4), .unset] [(.int (0 : Int32))])) (fun tgt cont => ?_) ?_
              · refine XS.ifYes X33.here hx rfl (pc0 := 77) (pc' := 84) rfl (hb hby at_77) rfl (XT.i0_eq_t hc35) (by decide) (by decide) ?_
                refine XT.iconstV X33.here hx rfl (0 : Int32) (hb hby at_84) rfl ?_
                exact cont
              exact K27 _ _ (0 : Int32) (own_wide X33 (by decide) (by decide)) e33 N33 (by subst hr31 hr34; simp only [if_pos hc29, if_pos hc32, if_pos hc35])
            ·
              refine own_go (B := T33.setTop (mkF m 85 #[.val (.int p1), .val (.int p2), .val (.int p3), .val (.int v2), .val (.int v4), .unset] [(.int (1 : Int32))])) (fun tgt cont => ?_) ?_
              · refine XS.ifNo X33.here hx rfl (hb hby at_77) rfl (XT.i0_eq_f hc35) ?_
                refine XT.iconstV X33.here hx rfl (1 : Int32) (hb hby at_80) rfl ?_
                refine XS.goto X33.here hx rfl (pc0 := 81) (pc' := 85) rfl (hb hby at_81) (by decide) (by decide) ?_
                exact cont
              exact K27 _ _ (1 : Int32) (own_wide X33 (by decide) (by decide)) e33 N33 (by subst hr31 hr34; simp only [if_pos hc29, if_pos hc32, if_neg hc35])
          ·
            refine own_go (B := T30.setTop (mkF m 85 #[.val (.int p1), .val (.int p2), .val (.int p3), .val (.int v2), .val (.int v4), .unset] [(.int (1 : Int32))])) (fun tgt cont => ?_) ?_
            · refine XS.ifYes X30.here hx rfl (pc0 := 65) (pc' := 80) rfl (hb hby at_65) rfl (XT.i0_ne_t hc32) (by decide) (by decide) ?_
              refine XT.iconstV X30.here hx rfl (1 : Int32) (hb hby at_80) rfl ?_
              refine XS.goto X30.here hx rfl (pc0 := 81) (pc' := 85) rfl (hb hby at_81) (by decide) (by decide) ?_
              exact cont
            exact K27 _ _ (1 : Int32) (own_wide X30 (by decide) (by decide)) e30 N30 (by subst hr31; simp only [if_pos hc29, if_neg hc32])
        ·
          refine own_go (B := T25.setTop (mkF m 85 #[.val (.int p1), .val (.int p2), .val (.int p3), .val (.int v2), .val (.int v4), .unset] [(.int (1 : Int32))])) (fun tgt cont => ?_) ?_
          · refine XS.ifYes X25.here hx rfl (pc0 := 53) (pc' := 80) rfl (hb hby at_53) rfl (XT.i0_ne_t hc29) (by decide) (by decide) ?_
            refine XT.iconstV X25.here hx rfl (1 : Int32) (hb hby at_80) rfl ?_
            refine XS.goto X25.here hx rfl (pc0 := 81) (pc' := 85) rfl (hb hby at_81) (by decide) (by decide) ?_
            exact cont
          exact K27 _ _ (1 : Int32) (own_wide X25 (by decide) (by decide)) e25 N25 (by simp only [if_neg hc29])
    by_cases hc36 : (p3 &&& (1 : Int32)) = 0
    ·
      refine own_go (B := s₁.setTop (mkF m 41 #[.val (.int p1), .val (.int p2), .val (.int p3), .val (.int v2), .val (.int p1), .unset] [])) (fun tgt cont => ?_) ?_
      · refine XS.ifNo X0.here hx rfl (hb hby at_15) rfl (XT.i0_ne_f hc36) ?_
        refine XS.iloadN X0.here hx rfl (hb hby at_18) rfl ?_
        refine XS.istore X0.here hx rfl (hb hby at_19) rfl (l' := #[.val (.int p1), .val (.int p2), .val (.int p3), .val (.int v2), .val (.int p1), .unset]) rfl ?_
        refine XS.goto X0.here hx rfl (pc0 := 21) (pc' := 41) rfl (hb hby at_21) (by decide) (by decide) ?_
        exact cont
      exact K3 _ _ p1 (own_wide X0 (by decide) (by decide)) e0 N0 (by simp only [if_pos hc36])
    ·
      refine own_go (B := s₁.setTop (mkF m 30 #[.val (.int p1), .val (.int p2), .val (.int p3), .val (.int v2), .unset, .unset] [(.int (((p3.toUInt32 >>> ((1 : Int32) &&& 31).toUInt32).toInt32) % (10 : Int32)))])) (fun tgt cont => ?_) ?_
      · refine XS.ifYes X0.here hx rfl (pc0 := 15) (pc' := 24) rfl (hb hby at_15) rfl (XT.i0_ne_t hc36) (by decide) (by decide) ?_
        refine XS.iloadN X0.here hx rfl (hb hby at_24) rfl ?_
        refine XT.iconstV X0.here hx rfl (1 : Int32) (hb hby at_25) rfl ?_
        refine XS.iushr X0.here hx rfl (hb hby at_26) rfl ?_
        refine XT.bipushV X0.here hx rfl (10 : Int32) (hb hby at_27) rfl ?_
        refine iremM X0 hx rfl (hb hby at_29) rfl (by decide) ?_
        exact cont
      -- pc 30: XmlCharsIsCharPinLaw.boundary
      obtain ⟨_, _, ⟨T37, L37, k37, n37⟩, -, X37, ⟨Lc37, hQ37, l37, y37, z37⟩, st37⟩ := Jvm.LawKit.callS X0 hx (y := (⟨"com/example/attlist/attlist/XmlCharsIsCharPinLaw", "boundary", "(I)I"⟩ : MethodName)) hown (mvT hZ (hw _ (List.mem_of_getElem? (i := 13) rfl))) (mvT hZ (hw _ (List.mem_of_getElem? (i := 14) rfl))) (mvT hZ (hw _ (List.mem_of_getElem? (i := 3) rfl))) (mvT hZ (hw _ (List.mem_of_getElem? (i := 15) rfl))) (by decide) (backOf (W := 0) (rm3 l Z a0 hw [] (((p3.toUInt32 >>> ((1 : Int32) &&& 31).toUInt32).toInt32) % (10 : Int32)) h0 n0 Z0 ) hZ (hw _ (List.mem_of_getElem? (i := 15) rfl)) (hw _ (List.mem_of_getElem? (i := 3) rfl)) (by decide) (by decide)) (g := (mkF m 30 #[.val (.int p1), .val (.int p2), .val (.int p3), .val (.int v2), .unset, .unset] [(.int (((p3.toUInt32 >>> ((1 : Int32) &&& 31).toUInt32).toInt32) % (10 : Int32)))])) rfl (by rw [hml]; rfl) (argsL := [(.int (((p3.toUInt32 >>> ((1 : Int32) &&& 31).toUInt32).toInt32) % (10 : Int32)))]) (rest := []) (lenOf own_pd0 rfl) rfl (by show 2 * 0 + _ ≤ _; exact Nat.le_of_eq rfl) (hb hby at_30) (fun _ _ => ⟨rfl, e0, (by decide : 0 + 0 ≤ _), (by decide : 0 + 0 ≤ _)⟩)
      dsimp only [Pt.U, Pt.locs, Pt.cells, Pt.slots] at X37 l37 y37 z37 st37 hQ37
      subst l37 y37 z37
      obtain ⟨rfl, N37q, e37⟩ := hQ37
      have N37 := Fr.app N0 N37q
      refine own_go (fun tgt cont => st37 tgt cont) ?_
      show own_Go p e below s (Q0 n0) room_1.cells room_1.slots (T37.setTop (mkF m 33 #[.val (.int p1), .val (.int p2), .val (.int p3), .val (.int v2), .unset, .unset] [(.int (own_bd (((p3.toUInt32 >>> ((1 : Int32) &&& 31).toUInt32).toInt32) % (10 : Int32))))]))
      generalize hr38 : (own_bd (((p3.toUInt32 >>> ((1 : Int32) &&& 31).toUInt32).toInt32) % (10 : Int32))) = r38
      refine own_go (B := T37.setTop (mkF m 39 #[.val (.int p1), .val (.int p2), .val (.int p3), .val (.int v2), .unset, .unset] [(.int (r38 + ((p1 &&& (3 : Int32)) - (2 : Int32))))])) (fun tgt cont => ?_) ?_
      · refine XS.iloadN X37.here hx rfl (hb hby at_33) rfl ?_
        refine XT.iconstV X37.here hx rfl (3 : Int32) (hb hby at_34) rfl ?_
        refine XS.iand X37.here hx rfl (hb hby at_35) rfl ?_
        refine XT.iconstV X37.here hx rfl (2 : Int32) (hb hby at_36) rfl ?_
        refine XS.isub X37.here hx rfl (hb hby at_37) rfl ?_
        refine XS.iadd X37.here hx rfl (hb hby at_38) rfl ?_
        exact cont
      generalize hv39 : (r38 + ((p1 &&& (3 : Int32)) - (2 : Int32))) = v39
      refine own_go (B := T37.setTop (mkF m 41 #[.val (.int p1), .val (.int p2), .val (.int p3), .val (.int v2), .val (.int v39), .unset] [])) (fun tgt cont => ?_) ?_
      · refine XS.istore X37.here hx rfl (hb hby at_39) rfl (l' := #[.val (.int p1), .val (.int p2), .val (.int p3), .val (.int v2), .val (.int v39), .unset]) rfl ?_
        exact cont
      exact K3 _ _ v39 (own_wide X37 (by decide) (by decide)) e37 N37 (by subst hr38 hv39; simp only [if_neg hc36])
  by_cases hc40 : (p2 &&& (1 : Int32)) = 0
  ·
    refine own_go (B := s₁.setTop (mkF m 11 #[.val (.int p1), .val (.int p2), .val (.int p3), .unset, .unset, .unset] [(.int (0 : Int32))])) (fun tgt cont => ?_) ?_
    · refine XS.ifYes X0.here hx rfl (pc0 := 3) (pc' := 10) rfl (hb hby at_3) rfl (XT.i0_eq_t hc40) (by decide) (by decide) ?_
      refine XT.iconstV X0.here hx rfl (0 : Int32) (hb hby at_10) rfl ?_
      exact cont
    exact K1 (0 : Int32) (by simp only [if_pos hc40])
  ·
    refine own_go (B := s₁.setTop (mkF m 11 #[.val (.int p1), .val (.int p2), .val (.int p3), .unset, .unset, .unset] [(.int (1 : Int32))])) (fun tgt cont => ?_) ?_
    · refine XS.ifNo X0.here hx rfl (hb hby at_3) rfl (XT.i0_eq_f hc40) ?_
      refine XT.iconstV X0.here hx rfl (1 : Int32) (hb hby at_6) rfl ?_
      refine XS.goto X0.here hx rfl (pc0 := 7) (pc' := 11) rfl (hb hby at_7) (by decide) (by decide) ?_
      exact cont
    exact K1 (1 : Int32) (by simp only [if_neg hc40])
set_option maxRecDepth 65536 in
set_option maxHeartbeats 40000000 in
theorem comes_1 {Post : Tables → Env → Array Value → State → Outcome → State → Prop} (hpost : ∀ tb e args s v u, (limb_1_1.after args s (.returned v) u = true ∧ limb_1_2.after args s (.returned v) u = true ∧ True) → FrameEnd s (.returned v) u (Jvm.fieldLocs frame_1_writes args s ++ Jvm.arrayLocs frame_1_arrays args s ++ Jvm.staticLocs frame_1_statics s) 0 0 → Post tb e args s (.returned v) u) :
    ArmFor flags0 classFile x code maxLocals ret World_1 tables_1 room_1 Calls_1 rest_1 Pre_1 Post := by
  intro l hfl _ _ p e ha hc hk s m args below hf hA hF happ hP
  obtain ⟨hcalls, hrest, hpre⟩ := hP
  obtain ⟨-, -, -, hnamed, -, -, -, hat⟩ := (Spec.applies_iff hf).mp happ
  obtain ⟨hg, hn⟩ := and_e (Cond.before_iff.mp (show (Jvm.Cond.and given_1 narrow_1).before args s = true from hpre))
  obtain ⟨g0, gr0⟩ := and_e hg
  obtain ⟨ga0, gr1⟩ := and_e gr0
  obtain ⟨ga1, gr2⟩ := and_e gr1
  obtain ⟨w0, w1, w2, rfl⟩ : ∃ w0 w1 w2 : Value, args = #[w0, w1, w2] := by
    have hs : args.size = 3 := by simpa [Cond.value, given_1] using g0
    obtain ⟨L⟩ := args
    match L, hs with
    | [w0, w1, w2], _ => exact ⟨w0, w1, w2, rfl⟩
  have hw := fun d (hd : d ∈ tables_1) => atoms_spec (ws := Jvm.Cond.code x code maxLocals ret :: tables_1) hat d (List.mem_cons_of_mem _ hd)
  obtain ⟨i0, ei0⟩ := is_v ga0
  obtain rfl : w0 = (.int i0) := Option.some.inj ei0
  obtain ⟨i1, ei1⟩ := is_v ga1
  obtain rfl : w1 = (.int i1) := Option.some.inj ei1
  obtain ⟨i2, ei2⟩ := is_v gr2
  obtain rfl : w2 = (.int i2) := Option.some.inj ei2
  obtain ⟨n, o, h1, h2, h3, _, L, rfl, ⟨rfl, N⟩, hq⟩ := rm0 l s _ hw tables_1 i0 i1 i2 s.heap s.heap.size (Nat.le_refl _) p e ha hc hk s m _ below hf ((Spec.applies_iff_loose hf).mp happ).1 ⟨rfl, State.Warmed39.refl s, rfl⟩ trivial
  refine ⟨n, _, h1, h2, h3, hpost _ _ _ _ _ _ ⟨Cond.after_iff.mpr rfl, Cond.after_iff.mpr (eq_i res_at (Term.int_eval (1)) rfl), trivial⟩ ⟨hq.1, hq.2.1, (hq.2.2.sift fun y hy => Or.inr (N y hy)).mono (by decide) (by decide)⟩⟩
theorem main_1_1 : Claimed_1_1 := comes_1 fun _ _ _ _ _ _ h hF => ⟨h.1, hF⟩
theorem main_1_2 : Claimed_1_2 := comes_1 fun _ _ _ _ _ _ h hF => ⟨h.2.1, hF⟩
end Jvm.Pilot.@@N@@
namespace Jvm.Pilot.@@N@@
open Jvm Jvm.ClassFile Sem Op Lib Jvm.Free Jvm.Stand Jvm.Pilot.@@N@@.Jvm.D
/-! MADE BY PROGRAM (witnessworld.py) out of the Statement's table words and the real class files: 9 classes; the members and pool entries that the words name. The judged class is class 1, her method 3. -/
namespace start1
open Jvm.ClassFile
def u (s : String) : CpInfo := .utf8 (stringToUtf16 s)
/-- a pool by its gaps: so many unusable entries, then the entry; so many at the end -/
def gap : Nat → List CpInfo → List CpInfo
  | 0, r => r
  | n + 1, r => .unusable :: gap n r
def poolList (es : List (Nat × CpInfo)) (last : Nat) : List CpInfo := es.foldr (fun e r => gap e.1 (e.2 :: r)) (gap last [])
def pool (es : List (Nat × CpInfo)) (last : Nat) : Array CpInfo := ⟨poolList es last⟩
def fileOf (pool : Array CpInfo) (this : Nat) (attrs : Array Attribute := #[]) (ms : Array MethodInfo := #[]) (fl : Nat := 33) (sup : Nat := 0) (ifs : Array Nat := #[]) (fds : Array FieldInfo := #[]) : ClassFile where
  minorVersion := 0
  majorVersion := 65
  constantPool := pool
  accessFlags := fl
  thisClass := this
  superClass := sup
  interfaces := ifs
  fields := fds
  methods := ms
  attributes := attrs
def plain (name : String) (sup : Option ClassId) : Class where
  name := name
  kind := .ordinary
  loader := none
  accessFlags := 33
  super := sup
  interfaces := #[]
  cf := none
  fields := #[]
  methods := #[]
  instanceTypes := #[]
  staticTypes := #[]
  resolved := #[]
  callSites := []
  init := .initialized
  statics := none
  mirror := none

def pool0 : Array CpInfo := pool [(5, u "<init>"), (0, u "()V"), (1, .class_ 10), (1, u "java/lang/Object")] 113

def k0m0 : Method := { name := "<init>", desc := "()V", sig := { parameters := [], returnType := none }, accessFlags := 1, code := none }
/-- java/lang/Object -/
def k0 : Class := { plain "java/lang/Object" none with
  accessFlags := 33
  interfaces := #[]
  cf := some (fileOf pool0 8 #[] #[{ accessFlags := 1, nameIndex := 5, descriptorIndex := 6, attributes := #[] }] 33 0 #[] #[])
  fields := #[]
  methods := #[k0m0]
  instanceTypes := #[]
  staticTypes := #[]
  resolved := Array.replicate 124 none
  statics := none }

def pool1 : Array CpInfo := pool [(2, .class_ 4), (1, u "java/lang/Object"), (0, u "<init>"), (0, u "()V"), (0, .integer 55296), (0, .integer 57344), (0, .integer 65534), (0, .integer 65536), (0, .integer 1114112), (0, .methodref 13 14), (0, .class_ 15), (0, .nameAndType 16 17), (0, u "com/example/attlist/attlist/XmlCharsIsCharPinLaw"), (0, u "boundary"), (0, u "(I)I"), (0, .integer 55295), (0, .methodref 13 20), (0, .nameAndType 21 22), (0, u "in"), (0, u "(III)Z"), (0, .integer 65533), (0, .integer 1114111), (0, .methodref 26 27), (0, .class_ 28), (0, .nameAndType 29 30), (0, u "com/example/attlist/attlist/XmlChars"), (0, u "isChar"), (0, u "(IZ)Z"), (3, u "law")] 2

def k1m0 : Method := { name := "<init>", desc := "()V", sig := { parameters := [], returnType := none }, accessFlags := 2, code := none }
def k1c1 : Code := { maxStack := 2, maxLocals := 3, code := method_2_code, exceptionTable := #[], attributes := #[] }
def k1m1 : Method := { name := "in", desc := "(III)Z", sig := { parameters := [.int, .int, .int], returnType := some .boolean }, accessFlags := 10, code := some k1c1 }
def k1c2 : Code := { maxStack := 2, maxLocals := 1, code := method_3_code, exceptionTable := #[], attributes := #[] }
def k1m2 : Method := { name := "boundary", desc := "(I)I", sig := { parameters := [.int], returnType := some .int }, accessFlags := 10, code := some k1c2 }
def k1c3 : Code := { maxStack := 3, maxLocals := 6, code := code, exceptionTable := #[], attributes := #[] }
def k1m3 : Method := { name := "law", desc := "(III)Z", sig := { parameters := [.int, .int, .int], returnType := some .boolean }, accessFlags := 9, code := some k1c3 }
/-- com/example/attlist/attlist/XmlCharsIsCharPinLaw -/
def k1 : Class := { plain "com/example/attlist/attlist/XmlCharsIsCharPinLaw" (some 0) with
  accessFlags := 49
  interfaces := #[]
  cf := some (fileOf pool1 13 #[] #[{ accessFlags := 2, nameIndex := 5, descriptorIndex := 6, attributes := #[] }, { accessFlags := 10, nameIndex := 21, descriptorIndex := 22, attributes := #[] }, { accessFlags := 10, nameIndex := 16, descriptorIndex := 17, attributes := #[] }, { accessFlags := 9, nameIndex := 34, descriptorIndex := 22, attributes := #[] }] 49 2 #[] #[])
  fields := #[]
  methods := #[k1m0, k1m1, k1m2, k1m3]
  instanceTypes := #[]
  staticTypes := #[]
  resolved := Array.replicate 37 none
  statics := none }

def pool2 : Array CpInfo := pool [(2, .class_ 4), (1, u "java/lang/Object"), (0, u "<init>"), (0, u "()V"), (0, .integer 55295), (0, .integer 57344), (0, .integer 65533), (0, .integer 65536), (0, .integer 1114111), (0, .class_ 13), (0, u "com/example/attlist/attlist/XmlChars"), (8, u "PUBID_PUNCTUATION"), (0, u "Ljava/lang/String;"), (8, u "isChar"), (0, u "(IZ)Z")] 4

def k2m0 : Method := { name := "<init>", desc := "()V", sig := { parameters := [], returnType := none }, accessFlags := 2, code := none }
def k2c1 : Code := { maxStack := 2, maxLocals := 3, code := prog_10_method_4_code, exceptionTable := #[], attributes := #[] }
def k2m1 : Method := { name := "isChar", desc := "(IZ)Z", sig := { parameters := [.int, .boolean], returnType := some .boolean }, accessFlags := 9, code := some k2c1 }
/-- com/example/attlist/attlist/XmlChars -/
def k2 : Class := { plain "com/example/attlist/attlist/XmlChars" (some 0) with
  accessFlags := 49
  interfaces := #[]
  cf := some (fileOf pool2 12 #[] #[{ accessFlags := 2, nameIndex := 5, descriptorIndex := 6, attributes := #[] }, { accessFlags := 9, nameIndex := 32, descriptorIndex := 33, attributes := #[] }] 49 2 #[] #[{ accessFlags := 26, nameIndex := 22, descriptorIndex := 23, attributes := #[] }])
  fields := #[{ name := "PUBID_PUNCTUATION", type := (.object "java/lang/String"), accessFlags := 26, slot := 0, constantValue := 0 }]
  methods := #[k2m0, k2m1]
  instanceTypes := #[]
  staticTypes := #[(.object "java/lang/String")]
  resolved := Array.replicate 38 none
  statics := none }

def pool3 : Array CpInfo := pool [(1, u "java/lang/Cloneable"), (0, .class_ 1), (0, u "java/lang/Object"), (0, .class_ 3)] 3

/-- java/lang/Cloneable -/
def k3 : Class := { plain "java/lang/Cloneable" (some 0) with
  accessFlags := 1537
  interfaces := #[]
  cf := some (fileOf pool3 2 #[] #[] 1537 4 #[] #[])
  fields := #[]
  methods := #[]
  instanceTypes := #[]
  staticTypes := #[]
  resolved := Array.replicate 8 none
  statics := none }

def pool4 : Array CpInfo := pool [(1, u "java/io/Serializable"), (0, .class_ 1), (0, u "java/lang/Object"), (0, .class_ 3)] 3

/-- java/io/Serializable -/
def k4 : Class := { plain "java/io/Serializable" (some 0) with
  accessFlags := 1537
  interfaces := #[]
  cf := some (fileOf pool4 2 #[] #[] 1537 4 #[] #[])
  fields := #[]
  methods := #[]
  instanceTypes := #[]
  staticTypes := #[]
  resolved := Array.replicate 8 none
  statics := none }

/-- the primitive byte -/
def k5 : Class := { plain "byte" none with kind := .primitive 'B', accessFlags := 0x411 }
/-- [B -/
def k6 : Class := { plain "[B" (some 0) with kind := .array 5 .byte, interfaces := #[3, 4], accessFlags := 1041 }

/-- the primitive int -/
def k7 : Class := { plain "int" none with kind := .primitive 'I', accessFlags := 0x411 }
/-- [I -/
def k8 : Class := { plain "[I" (some 0) with kind := .array 7 .int, interfaces := #[3, 4], accessFlags := 1041 }

def heap : Heap := #[]
def classes : Array Class := #[k0, k1, k2, k3, k4, k5, k6, k7, k8]
def interned : List (Array UInt16 × Addr) := []
def slotsUsed : Nat := 0
def theMethod : MethodId := ⟨1, 3⟩
def args0 : Array Value := #[.int 5, .int 300, .int 7]
def aboutOver (below : List Frame) : State where
  vm := { classes := classes, interned := interned.toArray }
  heap := heap
  slotsUsed := slotsUsed
  threads := #[{ frames := .invoking theMethod args0 :: below }]
def below0 : List Frame := [.native { method := ⟨0, 0⟩, args := #[] }]
def about1 : State := aboutOver below0
def p0 : Program := .bare "" "" ""
def e0 : Env := launch0.env 0 0 0
theorem w_frames : about1.frames = Frame.invoking theMethod args0 :: below0 := rfl
set_option maxRecDepth 65536 in
theorem w_args : argsFit about1.vm theMethod args0 = true := by decide +kernel
set_option maxRecDepth 65536 in
theorem w_heap : heapFits about1 = true := by decide +kernel
set_option maxRecDepth 65536 in
theorem w_runnable : about1.curStatus? = some .runnable := by decide +kernel
set_option maxRecDepth 65536 in
theorem w_alone : about1.alone = true := by decide +kernel
set_option maxRecDepth 65536 in
theorem w_named : about1.methodNamed? x = some theMethod := by decide +kernel
set_option maxRecDepth 65536 in
theorem w_hears : about1.hears theMethod below0 = true := by decide +kernel
set_option maxRecDepth 65536 in
theorem w_ripe : about1.ripe theMethod args0 below0 = true := by decide +kernel
theorem w_running : about1.status = .running := rfl
set_option maxRecDepth 65536 in
theorem w_room : about1.hasRoom e0.platform room_1 = true :=
  launch0.hasRoom_least _ room_1 (by decide +kernel) (by decide +kernel) (by decide +kernel) (by decide +kernel) (by decide +kernel) (by decide +kernel)
theorem allAtoms_all (ts : List Jvm.Cond) (a : Array Jvm.Value) (st : Jvm.State) : (allAtoms ts).before a st = ts.all (fun c => c.before a st) := by
  induction ts with
  | nil => rfl
  | cons c t ih =>
    show (Jvm.Cond.and c (allAtoms t)).before a st = _
    rw [Jvm.Cond.before_and, ih, List.all_cons]
def words1 : List Jvm.Cond := Jvm.Cond.code x code maxLocals ret :: tables_1
/-- a 'code' word, met by the world's own term for the bytes: nothing is compared byte by byte -/
theorem code_word {y : MethodName} {bytes : ByteArray} {mx : Nat} {rt : Option FieldType} {a : Array Value} {s : State} {m : MethodId} {meth : Method} {c : Code} (h1 : s.methodNamed? y = some m) (h2 : s.vm.method? m = some meth) (h3 : meth.code = some c) (h4 : c.code = bytes)
    (h5 : (c.maxLocals == mx && c.exceptionTable.isEmpty && decide (c.maxStack ≤ mostOperands) && decide (meth.sig.returnType = rt) && !meth.locks && decide (parseMethodDescriptor y.desc = some meth.sig)) = true) : (Jvm.Cond.code y bytes mx rt).before a s = true := by
  simp only [Bool.and_eq_true, beq_iff_eq, Bool.not_eq_true', decide_eq_true_eq] at h5
  obtain ⟨⟨⟨⟨⟨g1, g2⟩, g3⟩, g4⟩, g5⟩, g6⟩ := h5
  simp [Cond.before, Cond.holds, Cond.value, h1, h2, h3, h4, g1, g2, g3, g4, g5, g6]
def isCode : Jvm.Cond → Bool
  | .code _ _ _ _ => true
  | _ => false
theorem all_split {L : List Jvm.Cond} {P : Jvm.Cond → Bool} (h1 : L.all (fun c => isCode c || P c) = true) (h2 : ∀ c ∈ L.filter isCode, P c = true) : L.all P = true := by
  refine List.all_eq_true.mpr fun c hc => ?_
  have h := List.all_eq_true.mp h1 c hc
  rcases Bool.eq_false_or_eq_true (isCode c) with hi | hi
  · exact h2 c (List.mem_filter.mpr ⟨hc, hi⟩)
  · simpa [hi] using h
set_option maxRecDepth 65536 in
theorem w_c0 : (Jvm.Cond.code x code maxLocals ret).before args0 about1 = true := code_word (m := ⟨1, 3⟩) (meth := k1m3) (c := k1c3) (by decide +kernel) rfl rfl rfl (by decide +kernel)
set_option maxRecDepth 65536 in
theorem w_c1 : (Jvm.Cond.code ({ cls := "com/example/attlist/attlist/XmlCharsIsCharPinLaw", name := "in", desc := "(III)Z" } : Jvm.MethodName) method_2_code (3 : Nat) (Option.some Jvm.ClassFile.FieldType.boolean)).before args0 about1 = true := code_word (m := ⟨1, 1⟩) (meth := k1m1) (c := k1c1) (by decide +kernel) rfl rfl rfl (by decide +kernel)
set_option maxRecDepth 65536 in
theorem w_c2 : (Jvm.Cond.code ({ cls := "com/example/attlist/attlist/XmlChars", name := "isChar", desc := "(IZ)Z" } : Jvm.MethodName) prog_10_method_4_code (3 : Nat) (Option.some Jvm.ClassFile.FieldType.boolean)).before args0 about1 = true := code_word (m := ⟨2, 1⟩) (meth := k2m1) (c := k2c1) (by decide +kernel) rfl rfl rfl (by decide +kernel)
set_option maxRecDepth 65536 in
theorem w_c3 : (Jvm.Cond.code ({ cls := "com/example/attlist/attlist/XmlCharsIsCharPinLaw", name := "boundary", desc := "(I)I" } : Jvm.MethodName) method_3_code (1 : Nat) (Option.some Jvm.ClassFile.FieldType.int)).before args0 about1 = true := code_word (m := ⟨1, 2⟩) (meth := k1m2) (c := k1c2) (by decide +kernel) rfl rfl rfl (by decide +kernel)
def codes1 : List Jvm.Cond := [Jvm.Cond.code x code maxLocals ret, Jvm.Cond.code ({ cls := "com/example/attlist/attlist/XmlCharsIsCharPinLaw", name := "in", desc := "(III)Z" } : Jvm.MethodName) method_2_code (3 : Nat) (Option.some Jvm.ClassFile.FieldType.boolean), Jvm.Cond.code ({ cls := "com/example/attlist/attlist/XmlChars", name := "isChar", desc := "(IZ)Z" } : Jvm.MethodName) prog_10_method_4_code (3 : Nat) (Option.some Jvm.ClassFile.FieldType.boolean), Jvm.Cond.code ({ cls := "com/example/attlist/attlist/XmlCharsIsCharPinLaw", name := "boundary", desc := "(I)I" } : Jvm.MethodName) method_3_code (1 : Nat) (Option.some Jvm.ClassFile.FieldType.int)]
set_option maxRecDepth 65536 in
theorem codes_eq : words1.filter isCode = codes1 := rfl
theorem w_codes : ∀ c ∈ words1.filter isCode, c.before args0 about1 = true := by
  rw [codes_eq]
  intro c hc
  simp only [codes1, List.mem_cons, List.not_mem_nil, or_false] at hc
  rcases hc with rfl | rfl | rfl | rfl
  · exact w_c0
  · exact w_c1
  · exact w_c2
  · exact w_c3
set_option maxRecDepth 65536 in
theorem w_t1 : (words1.take 24).all (fun c => isCode c || c.before args0 about1) = true := by decide +kernel
set_option maxRecDepth 65536 in
theorem w_t2 : (words1.drop 24).all (fun c => isCode c || c.before args0 about1) = true := by decide +kernel
theorem w_tables : (allAtoms (Jvm.Cond.code x code maxLocals ret :: tables_1)).before args0 about1 = true := by
  rw [allAtoms_all]
  show words1.all (fun c => c.before args0 about1) = true
  refine all_split ?_ w_codes
  rw [← List.take_append_drop 24 words1, List.all_append, w_t1, w_t2]
  rfl
set_option maxRecDepth 65536 in
theorem w_case : (Jvm.Cond.and given_1 narrow_1).before args0 about1 = true := by decide +kernel
theorem w_applies : (headSpec (Jvm.Cond.code x code maxLocals ret :: tables_1) room_1).applies x e0.platform about1 = true :=
  (Spec.applies_iff w_frames).mpr ⟨w_running, w_runnable, w_alone, w_named, w_hears, w_ripe, w_room, w_tables⟩
theorem atStart : AtStart classFile x code maxLocals ret World_1 tables_1 room_1 Calls_1 rest_1 Pre_1 launch0 p0 e0 about1 theMethod args0 below0 :=
  ⟨lists_1, trivial, launch0.admits_env _ _ _, launch0.least_env, fairChoices_fair.cas, fairChoices_fair.clock, w_frames, w_args, w_heap, w_applies, trivial, trivial, w_case⟩
end start1
theorem witness_1 : WitnessClaimed_1 := ⟨start1.p0, start1.e0, start1.about1, start1.theMethod, start1.args0, start1.below0, start1.atStart⟩
end Jvm.Pilot.@@N@@
