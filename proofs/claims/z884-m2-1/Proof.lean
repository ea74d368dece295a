import JvmDerived
import JvmDerived.Pilot.@@N@@Statement
import JvmDerived.Pilot.@@N@@Code
set_option linter.unusedVariables false
set_option linter.unusedSimpArgs false
namespace Jvm.RoadKit
open Sem ClassFile Op Lib Jvm.Stand Jvm.Free Jvm.LawKit
section New
variable {p : Program} {l : Launch} {e : Env} {R : Room} {s : State} {m : MethodId} {args : Array Value} {below : List Frame} {meth : Method} {c : Code} {T : State} {locs : List Loc} {cells slots : Nat}
theorem retI (X : Stand p l e R s m args below meth c T locs cells slots) (hx : p.tables.exec = Jvm.exec) {pc : Nat} {Ls : Array Slot} {z : Int32} {rest : List Value} (hret : meth.sig.returnType = some .int) (hd : decode c.code pc = .ok (.ireturn, 1)) {fs : List Frame}
    (hl : ∀ (f : JFrame) (acts : List Action), f.method = m → f.locked = none → f.entered = [] → (doReturn e (T.setTop f) acts (some (.int z))).1 = T.setFrames fs) : Steps p.tables e below (T.setTop (mkF m pc Ls (.int z :: rest))) (T.setFrames fs) := by
  have hm' : T.vm.method? m = some meth := X.method'
  have hn : narrow .int (.int z) = .int z := rfl
  show Steps p.tables e below (T.setTop { method := m, pc := pc, locals := Ls, stack := _ :: rest, locked := none }) _
  jvm_step X.here [X.here.top, hx, hd, hm', hret, hn]
  first | (intro acts; rw [hl _ acts rfl rfl rfl]) | rw [hl _ _ rfl rfl rfl]
  exact Steps.refl _
end New
end Jvm.RoadKit
namespace Jvm.Pilot.@@N@@
open Jvm Jvm.ClassFile Sem Op Lib Jvm.Free Jvm.Stand Jvm.LawKit Jvm.RoadKit Bundle Jvm.Pilot.@@N@@.Jvm.D
/-! my own layer: all goals of a walk have one shape -/
section Own
variable {p : Program} {l : Launch} {e : Env} {R : Room} {s : State} {m : MethodId} {args : Array Value} {below : List Frame} {meth : Method} {c : Code} {T : State} {locs : List Loc} {cells slots : Nat} {Q : Option Value → Heap → List Loc → Prop} {nc ns : Nat} {A B : State}
/-- from A the method comes to its end, with Q of what it returns, of the heap and of the places written -/
def own_Go (p : Program) (e : Env) (below : List Frame) (s : State) (Q : Option Value → Heap → List Loc → Prop) (nc ns : Nat) (A : State) : Prop :=
  ∃ s₂ o, Steps p.tables e below A s₂ ∧ s₂.status = .running ∧ Ended s₂ below o ∧ ∃ v L, o = .returned v ∧ Q v s₂.heap L ∧ FrameEnd s o s₂ L nc ns
theorem own_go (k : ∀ t, Steps p.tables e below B t → Steps p.tables e below A t) (h : own_Go p e below s Q nc ns B) : own_Go p e below s Q nc ns A := by
  obtain ⟨t, o, h1, h2⟩ := h
  exact ⟨t, o, k t h1, h2⟩
theorem own_end (X : Stand p l e R s m args below meth c T locs cells slots) {v : Option Value} (hv : meth.sig.returnType = none → v = none) (hlk : meth.locks = false) (hq : Q v T.heap locs) (hc : cells ≤ nc) (hs : slots ≤ ns)
    (hst : ∀ fs, (∀ (f : JFrame) (acts : List Action), f.method = m → f.locked = none → f.entered = [] → (doReturn e (T.setTop f) acts v).1 = T.setFrames fs) → Steps p.tables e below A (T.setFrames fs)) : own_Go p e below s Q nc ns A := by
  obtain ⟨fs, hr, hrun, hended, hW, hsame⟩ := X.leave (v := v) hv hlk
  exact ⟨_, _, hst fs hr, hrun, hended, v, locs, rfl, hq, ⟨_, rfl⟩, hW, hsame.mono hc hs⟩
theorem own_wide {cells' slots' : Nat} (X : Stand p l e R s m args below meth c T locs cells slots) (hc : cells ≤ cells') (hs : slots ≤ slots') : Stand p l e R s m args below meth c T locs cells' slots' :=
  { X with same := X.same.mono hc hs }
theorem own_lrem {tb : Tables} [Ours tb] {target : State} {g : JFrame} (h : At T m c below) (hx : tb.exec = Jvm.exec) (hg : g.method = m) {x y : Int64} {rest : List Value} (hd : decode c.code g.pc = .ok (.lrem, 1)) (hs : g.stack = .long y :: .long x :: rest) (hy : y ≠ 0)
    (hr : Steps tb e below (T.setTop { g with pc := g.pc + 1, stack := .long (x % y) :: rest }) target) : Steps tb e below (T.setTop g) target :=
  XS.lrem h hx hg hd hs hy (by rw [lrem_mod]; exact hr)
end Own
section Own2
variable {Z s : State} {a0 args : Array Value} {h : Heap} {a b : Addr} {C : String} {c : Cell} {ty : FieldType}
theorem own_selP {y : MethodName} {n : Nat} (hZ : Z.Warmed39 s.vm) (wi : (Jvm.Cond.instantiable y.cls n).before a0 Z = true) (w2 : (Jvm.Cond.instanceMethod y).before a0 Z = true) (w3 : (Jvm.Cond.privateMethod y).before a0 Z = true)
    (hy : y.cls ≠ "java/lang/invoke/MethodHandle" ∧ y.cls ≠ "java/lang/invoke/VarHandle" := by decide) : (Jvm.Cond.selects y.cls y y).before args s = true := by
  have wi' : (Jvm.Cond.instantiable y.cls n).before args s = true := mvT hZ wi
  obtain ⟨c, k, h1, h2, -, h4, -⟩ := Cond.instantiable_spec wi'
  have h5 : k.isInterface = false := by
    cases hk : k.isInterface
    · rfl
    · rw [hk] at h4; simp at h4
  exact selects_self_of_private h1 h2 h5 (Cond.privateMethod_at (mvP hZ w3 (args := #[]))) (mvT hZ w2) hy
theorem own_neA {n : Nat} (F : Exa Z h a C) (wi : (Jvm.Cond.instantiable C n).before a0 Z = true) (G : ∃ c, Arr Z h b c ty) : a ≠ b := by
  obtain ⟨c, G⟩ := G
  exact ne_arr F wi G
end Own2
def own_in (p1 : Int32) (p2 : Int32) (p3 : Int32) : Int32 := if p1 < p2 then (0 : Int32) else if p3 < p1 then (0 : Int32) else (1 : Int32)
def Q_rm1 (Z : State) (p1 : Int32) (p2 : Int32) (p3 : Int32) (h0 : Heap) (n0 : Nat) (v : Option Value) (h : Heap) (L : List Loc) : Prop := v = some (.int (own_in p1 p2 p3)) ∧ Fr n0 L ∧ h = h0
theorem own_pn0 : plainName "com/example/attlist/attlist/XmlCharsIsRestrictedCharPinLaw" = true := by first | (simp [plainName, overriddenIn]; done) | decide +kernel
theorem d1_0 : decode method_2_code 0 = .ok (.iload_n 1, 1) := by decide +kernel
theorem d1_1 : decode method_2_code 1 = .ok (.iload_n 0, 1) := by decide +kernel
theorem d1_2 : decode method_2_code 2 = .ok (.if_icmp .gt 12, 3) := by decide +kernel
theorem d1_5 : decode method_2_code 5 = .ok (.iload_n 0, 1) := by decide +kernel
theorem d1_6 : decode method_2_code 6 = .ok (.iload_n 2, 1) := by decide +kernel
theorem d1_7 : decode method_2_code 7 = .ok (.if_icmp .gt 7, 3) := by decide +kernel
theorem d1_10 : decode method_2_code 10 = .ok (.iconst 1, 1) := by decide +kernel
theorem d1_11 : decode method_2_code 11 = .ok (.goto 4, 3) := by decide +kernel
theorem d1_14 : decode method_2_code 14 = .ok (.iconst 0, 1) := by decide +kernel
theorem d1_15 : decode method_2_code 15 = .ok (.ireturn, 1) := by decide +kernel
set_option maxRecDepth 65536 in
set_option maxHeartbeats 40000000 in
theorem rm1 (l : Launch) (Z : State) (a0 : Array Value) (hw : ∀ d ∈ tables_1, d.before a0 Z = true) (ws : List Jvm.Cond) (p1 : Int32) (p2 : Int32) (p3 : Int32) (h0 : Heap) (n0 : Nat) (Z0 : n0 ≤ h0.size)  :
    MetFree l (⟨"com/example/attlist/attlist/XmlCharsIsRestrictedCharPinLaw", "in", "(III)Z"⟩ : MethodName) (head1 (Jvm.Cond.code (⟨"com/example/attlist/attlist/XmlCharsIsRestrictedCharPinLaw", "in", "(III)Z"⟩ : MethodName) method_2_code 3 (some .boolean) :: ws) ({ frames := 0, cells := 0, slots := 0, locals := 0 } : Room)) (fun aa U => aa = #[(.int p1), (.int p2), (.int p3)] ∧ Z.Warmed39 U.vm ∧ U.heap = h0) (fun _ _ _ _ _ => True) (fun _ U o U' => ∃ v L, o = .returned v ∧ Q_rm1 Z p1 p2 p3 h0 n0 v U'.heap L ∧ FrameEnd U o U' L ({ frames := 0, cells := 0, slots := 0, locals := 0 } : Room).cells ({ frames := 0, cells := 0, slots := 0, locals := 0 } : Room).slots) := by
  refine MetFree.of_bodySF (plainFor_of_name own_pn0) hisR ?_
  intro p e s m args below meth c s₁ Bd hml0 hP hK
  obtain ⟨rfl, hZ, hh⟩ := hP
  have hx := Bd.exec
  have hby := Bd.bytes
  have hml : c.maxLocals = 3 := hml0
  have hlk : meth.locks = false := BodyLoose.notSynchronized Bd
  have hown : s.vm.findClass "com/example/attlist/attlist/XmlCharsIsRestrictedCharPinLaw" = some m.cls := findClass_of_methodNamed Bd.named
  have hnm := (name_of_methodNamed Bd.named Bd.method).1
  have X0 : Stand p l e ({ frames := 0, cells := 0, slots := 0, locals := 0 } : Room) s m #[(.int p1), (.int p2), (.int p3)] below meth c s₁ [] 0 0 := Stand.of_body Bd
  have e0 : s₁.heap = h0 := by rw [← hh, Bd.state]; rfl
  have N0 := Fr.nil n0
  show own_Go p e below s (Q_rm1 Z p1 p2 p3 h0 n0) 0 0 (s₁.setTop (entryFrame m #[(.int p1), (.int p2), (.int p3)] 3))
  refine own_go (B := s₁.setTop (mkF m 0 #[.val (.int p1), .val (.int p2), .val (.int p3)] [])) (fun tgt cont => (XT.entry rfl).trans cont) ?_
  refine own_go (B := s₁.setTop (mkF m 2 #[.val (.int p1), .val (.int p2), .val (.int p3)] [(.int p1), (.int p2)])) (fun tgt cont => ?_) ?_
  · refine XS.iloadN X0.here hx rfl (hb hby d1_0) rfl ?_
    refine XS.iloadN X0.here hx rfl (hb hby d1_1) rfl ?_
    exact cont
  by_cases hc1 : p1 < p2
  ·
    refine own_go (B := s₁.setTop (mkF m 15 #[.val (.int p1), .val (.int p2), .val (.int p3)] [(.int (0 : Int32))])) (fun tgt cont => ?_) ?_
    · refine XS.icmpYes X0.here hx rfl (pc0 := 2) (pc' := 14) rfl (hb hby d1_2) rfl (XT.ii_gt_t hc1) (by decide) (by decide) ?_
      refine XT.iconstV X0.here hx rfl (0 : Int32) (hb hby d1_14) rfl ?_
      exact cont
    refine own_end X0 (v := some (.int (0 : Int32))) (fun h => by rw [Bd.returns] at h; cases h) hlk ?_ (by decide) (by decide) (fun fs hl => retN X0 hx (t := .boolean) Bd.returns (by simp) (hb hby d1_15) hl)
    exact ⟨(by unfold own_in; first | exact rfl | (simp only [if_pos hc1]; first | done | exact rfl)), N0, e0⟩
  ·
    refine own_go (B := s₁.setTop (mkF m 7 #[.val (.int p1), .val (.int p2), .val (.int p3)] [(.int p3), (.int p1)])) (fun tgt cont => ?_) ?_
    · refine XS.icmpNo X0.here hx rfl (hb hby d1_2) rfl (XT.ii_gt_f hc1) ?_
      refine XS.iloadN X0.here hx rfl (hb hby d1_5) rfl ?_
      refine XS.iloadN X0.here hx rfl (hb hby d1_6) rfl ?_
      exact cont
    by_cases hc2 : p3 < p1
    ·
      refine own_go (B := s₁.setTop (mkF m 15 #[.val (.int p1), .val (.int p2), .val (.int p3)] [(.int (0 : Int32))])) (fun tgt cont => ?_) ?_
      · refine XS.icmpYes X0.here hx rfl (pc0 := 7) (pc' := 14) rfl (hb hby d1_7) rfl (XT.ii_gt_t hc2) (by decide) (by decide) ?_
        refine XT.iconstV X0.here hx rfl (0 : Int32) (hb hby d1_14) rfl ?_
        exact cont
      refine own_end X0 (v := some (.int (0 : Int32))) (fun h => by rw [Bd.returns] at h; cases h) hlk ?_ (by decide) (by decide) (fun fs hl => retN X0 hx (t := .boolean) Bd.returns (by simp) (hb hby d1_15) hl)
      exact ⟨(by unfold own_in; first | exact rfl | (simp only [if_neg hc1, if_pos hc2]; first | done | exact rfl)), N0, e0⟩
    ·
      refine own_go (B := s₁.setTop (mkF m 15 #[.val (.int p1), .val (.int p2), .val (.int p3)] [(.int (1 : Int32))])) (fun tgt cont => ?_) ?_
      · refine XS.icmpNo X0.here hx rfl (hb hby d1_7) rfl (XT.ii_gt_f hc2) ?_
        refine XT.iconstV X0.here hx rfl (1 : Int32) (hb hby d1_10) rfl ?_
        refine XS.goto X0.here hx rfl (pc0 := 11) (pc' := 15) rfl (hb hby d1_11) (by decide) (by decide) ?_
        exact cont
      refine own_end X0 (v := some (.int (1 : Int32))) (fun h => by rw [Bd.returns] at h; cases h) hlk ?_ (by decide) (by decide) (fun fs hl => retN X0 hx (t := .boolean) Bd.returns (by simp) (hb hby d1_15) hl)
      exact ⟨(by unfold own_in; first | exact rfl | (simp only [if_neg hc1, if_neg hc2]; first | done | exact rfl)), N0, e0⟩
def own_restr (p1 : Int32) : Int32 := if 0 < p1 then if p1 < (32 : Int32) then if p1 = (9 : Int32) then if p1 < (127 : Int32) then (0 : Int32) else if (159 : Int32) < p1 then (0 : Int32) else if p1 = (133 : Int32) then (0 : Int32) else (1 : Int32) else if p1 = (10 : Int32) then if p1 < (127 : Int32) then (0 : Int32) else if (159 : Int32) < p1 then (0 : Int32) else if p1 = (133 : Int32) then (0 : Int32) else (1 : Int32) else if p1 = (13 : Int32) then if p1 < (127 : Int32) then (0 : Int32) else if (159 : Int32) < p1 then (0 : Int32) else if p1 = (133 : Int32) then (0 : Int32) else (1 : Int32) else (1 : Int32) else if p1 < (127 : Int32) then (0 : Int32) else if (159 : Int32) < p1 then (0 : Int32) else if p1 = (133 : Int32) then (0 : Int32) else (1 : Int32) else if p1 < (127 : Int32) then (0 : Int32) else if (159 : Int32) < p1 then (0 : Int32) else if p1 = (133 : Int32) then (0 : Int32) else (1 : Int32)
def Q_rm2 (Z : State) (p1 : Int32) (h0 : Heap) (n0 : Nat) (v : Option Value) (h : Heap) (L : List Loc) : Prop := v = some (.int (own_restr p1)) ∧ Fr n0 L ∧ h = h0
theorem own_pn1 : plainName "com/example/attlist/attlist/XmlChars" = true := by first | (simp [plainName, overriddenIn]; done) | decide +kernel
theorem d2_0 : decode prog_10_method_5_code 0 = .ok (.iload_n 0, 1) := by decide +kernel
theorem d2_1 : decode prog_10_method_5_code 1 = .ok (.ifCond .le 31, 3) := by decide +kernel
theorem d2_4 : decode prog_10_method_5_code 4 = .ok (.iload_n 0, 1) := by decide +kernel
theorem d2_5 : decode prog_10_method_5_code 5 = .ok (.bipush 32, 2) := by decide +kernel
theorem d2_7 : decode prog_10_method_5_code 7 = .ok (.if_icmp .ge 25, 3) := by decide +kernel
theorem d2_10 : decode prog_10_method_5_code 10 = .ok (.iload_n 0, 1) := by decide +kernel
theorem d2_11 : decode prog_10_method_5_code 11 = .ok (.bipush 9, 2) := by decide +kernel
theorem d2_13 : decode prog_10_method_5_code 13 = .ok (.if_icmp .eq 19, 3) := by decide +kernel
theorem d2_16 : decode prog_10_method_5_code 16 = .ok (.iload_n 0, 1) := by decide +kernel
theorem d2_17 : decode prog_10_method_5_code 17 = .ok (.bipush 10, 2) := by decide +kernel
theorem d2_19 : decode prog_10_method_5_code 19 = .ok (.if_icmp .eq 13, 3) := by decide +kernel
theorem d2_22 : decode prog_10_method_5_code 22 = .ok (.iload_n 0, 1) := by decide +kernel
theorem d2_23 : decode prog_10_method_5_code 23 = .ok (.bipush 13, 2) := by decide +kernel
theorem d2_25 : decode prog_10_method_5_code 25 = .ok (.if_icmp .eq 7, 3) := by decide +kernel
theorem d2_28 : decode prog_10_method_5_code 28 = .ok (.iconst 1, 1) := by decide +kernel
theorem d2_29 : decode prog_10_method_5_code 29 = .ok (.goto 4, 3) := by decide +kernel
theorem d2_32 : decode prog_10_method_5_code 32 = .ok (.iconst 0, 1) := by decide +kernel
theorem d2_33 : decode prog_10_method_5_code 33 = .ok (.istore_n 1, 1) := by decide +kernel
theorem d2_34 : decode prog_10_method_5_code 34 = .ok (.iload_n 1, 1) := by decide +kernel
theorem d2_35 : decode prog_10_method_5_code 35 = .ok (.ifCond .ne 23, 3) := by decide +kernel
theorem d2_38 : decode prog_10_method_5_code 38 = .ok (.iload_n 0, 1) := by decide +kernel
theorem d2_39 : decode prog_10_method_5_code 39 = .ok (.bipush 127, 2) := by decide +kernel
theorem d2_41 : decode prog_10_method_5_code 41 = .ok (.if_icmp .lt 21, 3) := by decide +kernel
theorem d2_44 : decode prog_10_method_5_code 44 = .ok (.iload_n 0, 1) := by decide +kernel
theorem d2_45 : decode prog_10_method_5_code 45 = .ok (.sipush 159, 3) := by decide +kernel
theorem d2_48 : decode prog_10_method_5_code 48 = .ok (.if_icmp .gt 14, 3) := by decide +kernel
theorem d2_51 : decode prog_10_method_5_code 51 = .ok (.iload_n 0, 1) := by decide +kernel
theorem d2_52 : decode prog_10_method_5_code 52 = .ok (.sipush 133, 3) := by decide +kernel
theorem d2_55 : decode prog_10_method_5_code 55 = .ok (.if_icmp .eq 7, 3) := by decide +kernel
theorem d2_58 : decode prog_10_method_5_code 58 = .ok (.iconst 1, 1) := by decide +kernel
theorem d2_59 : decode prog_10_method_5_code 59 = .ok (.goto 4, 3) := by decide +kernel
theorem d2_62 : decode prog_10_method_5_code 62 = .ok (.iconst 0, 1) := by decide +kernel
theorem d2_63 : decode prog_10_method_5_code 63 = .ok (.ireturn, 1) := by decide +kernel
set_option maxRecDepth 65536 in
set_option maxHeartbeats 40000000 in
theorem rm2 (l : Launch) (Z : State) (a0 : Array Value) (hw : ∀ d ∈ tables_1, d.before a0 Z = true) (ws : List Jvm.Cond) (p1 : Int32) (h0 : Heap) (n0 : Nat) (Z0 : n0 ≤ h0.size)  :
    MetFree l (⟨"com/example/attlist/attlist/XmlChars", "isRestrictedChar", "(I)Z"⟩ : MethodName) (head1 (Jvm.Cond.code (⟨"com/example/attlist/attlist/XmlChars", "isRestrictedChar", "(I)Z"⟩ : MethodName) prog_10_method_5_code 2 (some .boolean) :: ws) ({ frames := 0, cells := 0, slots := 0, locals := 0 } : Room)) (fun aa U => aa = #[(.int p1)] ∧ Z.Warmed39 U.vm ∧ U.heap = h0) (fun _ _ _ _ _ => True) (fun _ U o U' => ∃ v L, o = .returned v ∧ Q_rm2 Z p1 h0 n0 v U'.heap L ∧ FrameEnd U o U' L ({ frames := 0, cells := 0, slots := 0, locals := 0 } : Room).cells ({ frames := 0, cells := 0, slots := 0, locals := 0 } : Room).slots) := by
  refine MetFree.of_bodySF (plainFor_of_name own_pn1) hisR ?_
  intro p e s m args below meth c s₁ Bd hml0 hP hK
  obtain ⟨rfl, hZ, hh⟩ := hP
  have hx := Bd.exec
  have hby := Bd.bytes
  have hml : c.maxLocals = 2 := hml0
  have hlk : meth.locks = false := BodyLoose.notSynchronized Bd
  have hown : s.vm.findClass "com/example/attlist/attlist/XmlChars" = some m.cls := findClass_of_methodNamed Bd.named
  have hnm := (name_of_methodNamed Bd.named Bd.method).1
  have X0 : Stand p l e ({ frames := 0, cells := 0, slots := 0, locals := 0 } : Room) s m #[(.int p1)] below meth c s₁ [] 0 0 := Stand.of_body Bd
  have e0 : s₁.heap = h0 := by rw [← hh, Bd.state]; rfl
  have N0 := Fr.nil n0
  show own_Go p e below s (Q_rm2 Z p1 h0 n0) 0 0 (s₁.setTop (entryFrame m #[(.int p1)] 2))
  refine own_go (B := s₁.setTop (mkF m 0 #[.val (.int p1), .unset] [])) (fun tgt cont => (XT.entry rfl).trans cont) ?_
  refine own_go (B := s₁.setTop (mkF m 1 #[.val (.int p1), .unset] [(.int p1)])) (fun tgt cont => ?_) ?_
  · refine XS.iloadN X0.here hx rfl (hb hby d2_0) rfl ?_
    exact cont
  by_cases hc1 : 0 < p1
  ·
    refine own_go (B := s₁.setTop (mkF m 7 #[.val (.int p1), .unset] [(.int (32 : Int32)), (.int p1)])) (fun tgt cont => ?_) ?_
    · refine XS.ifNo X0.here hx rfl (hb hby d2_1) rfl (XT.i0_le_f hc1) ?_
      refine XS.iloadN X0.here hx rfl (hb hby d2_4) rfl ?_
      refine XT.bipushV X0.here hx rfl (32 : Int32) (hb hby d2_5) rfl ?_
      exact cont
    by_cases hc2 : p1 < (32 : Int32)
    ·
      refine own_go (B := s₁.setTop (mkF m 13 #[.val (.int p1), .unset] [(.int (9 : Int32)), (.int p1)])) (fun tgt cont => ?_) ?_
      · refine XS.icmpNo X0.here hx rfl (hb hby d2_7) rfl (XT.ii_ge_f hc2) ?_
        refine XS.iloadN X0.here hx rfl (hb hby d2_10) rfl ?_
        refine XT.bipushV X0.here hx rfl (9 : Int32) (hb hby d2_11) rfl ?_
        exact cont
      by_cases hc3 : p1 = (9 : Int32)
      ·
        refine own_go (B := s₁.setTop (mkF m 41 #[.val (.int p1), .val (.int (0 : Int32))] [(.int (127 : Int32)), (.int p1)])) (fun tgt cont => ?_) ?_
        · refine XS.icmpYes X0.here hx rfl (pc0 := 13) (pc' := 32) rfl (hb hby d2_13) rfl (XT.ii_eq_t hc3) (by decide) (by decide) ?_
          refine XT.iconstV X0.here hx rfl (0 : Int32) (hb hby d2_32) rfl ?_
          refine XS.istoreN X0.here hx rfl (hb hby d2_33) rfl (l' := #[.val (.int p1), .val (.int (0 : Int32))]) rfl ?_
          refine XS.iloadN X0.here hx rfl (hb hby d2_34) rfl ?_
          refine XS.ifNo X0.here hx rfl (hb hby d2_35) rfl (XT.i0_ne_f (by decide)) ?_
          refine XS.iloadN X0.here hx rfl (hb hby d2_38) rfl ?_
          refine XT.bipushV X0.here hx rfl (127 : Int32) (hb hby d2_39) rfl ?_
          exact cont
        by_cases hc4 : p1 < (127 : Int32)
        ·
          refine own_go (B := s₁.setTop (mkF m 63 #[.val (.int p1), .val (.int (0 : Int32))] [(.int (0 : Int32))])) (fun tgt cont => ?_) ?_
          · refine XS.icmpYes X0.here hx rfl (pc0 := 41) (pc' := 62) rfl (hb hby d2_41) rfl (XT.ii_lt_t hc4) (by decide) (by decide) ?_
            refine XT.iconstV X0.here hx rfl (0 : Int32) (hb hby d2_62) rfl ?_
            exact cont
          refine own_end X0 (v := some (.int (0 : Int32))) (fun h => by rw [Bd.returns] at h; cases h) hlk ?_ (by decide) (by decide) (fun fs hl => retN X0 hx (t := .boolean) Bd.returns (by simp) (hb hby d2_63) hl)
          exact ⟨(by unfold own_restr; first | exact rfl | (simp only [if_pos hc1, if_pos hc2, if_pos hc3, if_pos hc4]; first | done | exact rfl)), N0, e0⟩
        ·
          refine own_go (B := s₁.setTop (mkF m 48 #[.val (.int p1), .val (.int (0 : Int32))] [(.int (159 : Int32)), (.int p1)])) (fun tgt cont => ?_) ?_
          · refine XS.icmpNo X0.here hx rfl (hb hby d2_41) rfl (XT.ii_lt_f hc4) ?_
            refine XS.iloadN X0.here hx rfl (hb hby d2_44) rfl ?_
            refine XT.sipushV X0.here hx rfl (159 : Int32) (hb hby d2_45) rfl ?_
            exact cont
          by_cases hc5 : (159 : Int32) < p1
          ·
            refine own_go (B := s₁.setTop (mkF m 63 #[.val (.int p1), .val (.int (0 : Int32))] [(.int (0 : Int32))])) (fun tgt cont => ?_) ?_
            · refine XS.icmpYes X0.here hx rfl (pc0 := 48) (pc' := 62) rfl (hb hby d2_48) rfl (XT.ii_gt_t hc5) (by decide) (by decide) ?_
              refine XT.iconstV X0.here hx rfl (0 : Int32) (hb hby d2_62) rfl ?_
              exact cont
            refine own_end X0 (v := some (.int (0 : Int32))) (fun h => by rw [Bd.returns] at h; cases h) hlk ?_ (by decide) (by decide) (fun fs hl => retN X0 hx (t := .boolean) Bd.returns (by simp) (hb hby d2_63) hl)
            exact ⟨(by unfold own_restr; first | exact rfl | (simp only [if_pos hc1, if_pos hc2, if_pos hc3, if_neg hc4, if_pos hc5]; first | done | exact rfl)), N0, e0⟩
          ·
            refine own_go (B := s₁.setTop (mkF m 55 #[.val (.int p1), .val (.int (0 : Int32))] [(.int (133 : Int32)), (.int p1)])) (fun tgt cont => ?_) ?_
            · refine XS.icmpNo X0.here hx rfl (hb hby d2_48) rfl (XT.ii_gt_f hc5) ?_
              refine XS.iloadN X0.here hx rfl (hb hby d2_51) rfl ?_
              refine XT.sipushV X0.here hx rfl (133 : Int32) (hb hby d2_52) rfl ?_
              exact cont
            by_cases hc6 : p1 = (133 : Int32)
            ·
              refine own_go (B := s₁.setTop (mkF m 63 #[.val (.int p1), .val (.int (0 : Int32))] [(.int (0 : Int32))])) (fun tgt cont => ?_) ?_
              · refine XS.icmpYes X0.here hx rfl (pc0 := 55) (pc' := 62) rfl (hb hby d2_55) rfl (XT.ii_eq_t hc6) (by decide) (by decide) ?_
                refine XT.iconstV X0.here hx rfl (0 : Int32) (hb hby d2_62) rfl ?_
                exact cont
              refine own_end X0 (v := some (.int (0 : Int32))) (fun h => by rw [Bd.returns] at h; cases h) hlk ?_ (by decide) (by decide) (fun fs hl => retN X0 hx (t := .boolean) Bd.returns (by simp) (hb hby d2_63) hl)
              exact ⟨(by unfold own_restr; first | exact rfl | (simp only [if_pos hc1, if_pos hc2, if_pos hc3, if_neg hc4, if_neg hc5, if_pos hc6]; first | done | exact rfl)), N0, e0⟩
            ·
              refine own_go (B := s₁.setTop (mkF m 63 #[.val (.int p1), .val (.int (0 : Int32))] [(.int (1 : Int32))])) (fun tgt cont => ?_) ?_
              · refine XS.icmpNo X0.here hx rfl (hb hby d2_55) rfl (XT.ii_eq_f hc6) ?_
                refine XT.iconstV X0.here hx rfl (1 : Int32) (hb hby d2_58) rfl ?_
                refine XS.goto X0.here hx rfl (pc0 := 59) (pc' := 63) rfl (hb hby d2_59) (by decide) (by decide) ?_
                exact cont
              refine own_end X0 (v := some (.int (1 : Int32))) (fun h => by rw [Bd.returns] at h; cases h) hlk ?_ (by decide) (by decide) (fun fs hl => retN X0 hx (t := .boolean) Bd.returns (by simp) (hb hby d2_63) hl)
              exact ⟨(by unfold own_restr; first | exact rfl | (simp only [if_pos hc1, if_pos hc2, if_pos hc3, if_neg hc4, if_neg hc5, if_neg hc6]; first | done | exact rfl)), N0, e0⟩
      ·
        refine own_go (B := s₁.setTop (mkF m 19 #[.val (.int p1), .unset] [(.int (10 : Int32)), (.int p1)])) (fun tgt cont => ?_) ?_
        · refine XS.icmpNo X0.here hx rfl (hb hby d2_13) rfl (XT.ii_eq_f hc3) ?_
          refine XS.iloadN X0.here hx rfl (hb hby d2_16) rfl ?_
          refine XT.bipushV X0.here hx rfl (10 : Int32) (hb hby d2_17) rfl ?_
          exact cont
        by_cases hc7 : p1 = (10 : Int32)
        ·
          refine own_go (B := s₁.setTop (mkF m 41 #[.val (.int p1), .val (.int (0 : Int32))] [(.int (127 : Int32)), (.int p1)])) (fun tgt cont => ?_) ?_
          · refine XS.icmpYes X0.here hx rfl (pc0 := 19) (pc' := 32) rfl (hb hby d2_19) rfl (XT.ii_eq_t hc7) (by decide) (by decide) ?_
            refine XT.iconstV X0.here hx rfl (0 : Int32) (hb hby d2_32) rfl ?_
            refine XS.istoreN X0.here hx rfl (hb hby d2_33) rfl (l' := #[.val (.int p1), .val (.int (0 : Int32))]) rfl ?_
            refine XS.iloadN X0.here hx rfl (hb hby d2_34) rfl ?_
            refine XS.ifNo X0.here hx rfl (hb hby d2_35) rfl (XT.i0_ne_f (by decide)) ?_
            refine XS.iloadN X0.here hx rfl (hb hby d2_38) rfl ?_
            refine XT.bipushV X0.here hx rfl (127 : Int32) (hb hby d2_39) rfl ?_
            exact cont
          by_cases hc8 : p1 < (127 : Int32)
          ·
            refine own_go (B := s₁.setTop (mkF m 63 #[.val (.int p1), .val (.int (0 : Int32))] [(.int (0 : Int32))])) (fun tgt cont => ?_) ?_
            · refine XS.icmpYes X0.here hx rfl (pc0 := 41) (pc' := 62) rfl (hb hby d2_41) rfl (XT.ii_lt_t hc8) (by decide) (by decide) ?_
              refine XT.iconstV X0.here hx rfl (0 : Int32) (hb hby d2_62) rfl ?_
              exact cont
            refine own_end X0 (v := some (.int (0 : Int32))) (fun h => by rw [Bd.returns] at h; cases h) hlk ?_ (by decide) (by decide) (fun fs hl => retN X0 hx (t := .boolean) Bd.returns (by simp) (hb hby d2_63) hl)
            exact ⟨(by unfold own_restr; first | exact rfl | (simp only [if_pos hc1, if_pos hc2, if_neg hc3, if_pos hc7, if_pos hc8]; first | done | exact rfl)), N0, e0⟩
          ·
            refine own_go (B := s₁.setTop (mkF m 48 #[.val (.int p1), .val (.int (0 : Int32))] [(.int (159 : Int32)), (.int p1)])) (fun tgt cont => ?_) ?_
            · refine XS.icmpNo X0.here hx rfl (hb hby d2_41) rfl (XT.ii_lt_f hc8) ?_
              refine XS.iloadN X0.here hx rfl (hb hby d2_44) rfl ?_
              refine XT.sipushV X0.here hx rfl (159 : Int32) (hb hby d2_45) rfl ?_
              exact cont
            by_cases hc9 : (159 : Int32) < p1
            ·
              refine own_go (B := s₁.setTop (mkF m 63 #[.val (.int p1), .val (.int (0 : Int32))] [(.int (0 : Int32))])) (fun tgt cont => ?_) ?_
              · refine XS.icmpYes X0.here hx rfl (pc0 := 48) (pc' := 62) rfl (hb hby d2_48) rfl (XT.ii_gt_t hc9) (by decide) (by decide) ?_
                refine XT.iconstV X0.here hx rfl (0 : Int32) (hb hby d2_62) rfl ?_
                exact cont
              refine own_end X0 (v := some (.int (0 : Int32))) (fun h => by rw [Bd.returns] at h; cases h) hlk ?_ (by decide) (by decide) (fun fs hl => retN X0 hx (t := .boolean) Bd.returns (by simp) (hb hby d2_63) hl)
              exact ⟨(by unfold own_restr; first | exact rfl | (simp only [if_pos hc1, if_pos hc2, if_neg hc3, if_pos hc7, if_neg hc8, if_pos hc9]; first | done | exact rfl)), N0, e0⟩
            ·
              refine own_go (B := s₁.setTop (mkF m 55 #[.val (.int p1), .val (.int (0 : Int32))] [(.int (133 : Int32)), (.int p1)])) (fun tgt cont => ?_) ?_
              · refine XS.icmpNo X0.here hx rfl (hb hby d2_48) rfl (XT.ii_gt_f hc9) ?_
                refine XS.iloadN X0.here hx rfl (hb hby d2_51) rfl ?_
                refine XT.sipushV X0.here hx rfl (133 : Int32) (hb hby d2_52) rfl ?_
                exact cont
              by_cases hc10 : p1 = (133 : Int32)
              ·
                refine own_go (B := s₁.setTop (mkF m 63 #[.val (.int p1), .val (.int (0 : Int32))] [(.int (0 : Int32))])) (fun tgt cont => ?_) ?_
                · refine XS.icmpYes X0.here hx rfl (pc0 := 55) (pc' := 62) rfl (hb hby d2_55) rfl (XT.ii_eq_t hc10) (by decide) (by decide) ?_
                  refine XT.iconstV X0.here hx rfl (0 : Int32) (hb hby d2_62) rfl ?_
                  exact cont
                refine own_end X0 (v := some (.int (0 : Int32))) (fun h => by rw [Bd.returns] at h; cases h) hlk ?_ (by decide) (by decide) (fun fs hl => retN X0 hx (t := .boolean) Bd.returns (by simp) (hb hby d2_63) hl)
                exact ⟨(by unfold own_restr; first | exact rfl | (simp only [if_pos hc1, if_pos hc2, if_neg hc3, if_pos hc7, if_neg hc8, if_neg hc9, if_pos hc10]; first | done | exact rfl)), N0, e0⟩
              ·
                refine own_go (B := s₁.setTop (mkF m 63 #[.val (.int p1), .val (.int (0 : Int32))] [(.int (1 : Int32))])) (fun tgt cont => ?_) ?_
                · refine XS.icmpNo X0.here hx rfl (hb hby d2_55) rfl (XT.ii_eq_f hc10) ?_
                  refine XT.iconstV X0.here hx rfl (1 : Int32) (hb hby d2_58) rfl ?_
                  refine XS.goto X0.here hx rfl (pc0 := 59) (pc' := 63) rfl (hb hby d2_59) (by decide) (by decide) ?_
                  exact cont
                refine own_end X0 (v := some (.int (1 : Int32))) (fun h => by rw [Bd.returns] at h; cases h) hlk ?_ (by decide) (by decide) (fun fs hl => retN X0 hx (t := .boolean) Bd.returns (by simp) (hb hby d2_63) hl)
                exact ⟨(by unfold own_restr; first | exact rfl | (simp only [if_pos hc1, if_pos hc2, if_neg hc3, if_pos hc7, if_neg hc8, if_neg hc9, if_neg hc10]; first | done | exact rfl)), N0, e0⟩
        ·
          refine own_go (B := s₁.setTop (mkF m 25 #[.val (.int p1), .unset] [(.int (13 : Int32)), (.int p1)])) (fun tgt cont => ?_) ?_
          · refine XS.icmpNo X0.here hx rfl (hb hby d2_19) rfl (XT.ii_eq_f hc7) ?_
            refine XS.iloadN X0.here hx rfl (hb hby d2_22) rfl ?_
            refine XT.bipushV X0.here hx rfl (13 : Int32) (hb hby d2_23) rfl ?_
            exact cont
          by_cases hc11 : p1 = (13 : Int32)
          ·
            refine own_go (B := s₁.setTop (mkF m 41 #[.val (.int p1), .val (.int (0 : Int32))] [(.int (127 : Int32)), (.int p1)])) (fun tgt cont => ?_) ?_
            · refine XS.icmpYes X0.here hx rfl (pc0 := 25) (pc' := 32) rfl (hb hby d2_25) rfl (XT.ii_eq_t hc11) (by decide) (by decide) ?_
              refine XT.iconstV X0.here hx rfl (0 : Int32) (hb hby d2_32) rfl ?_
              refine XS.istoreN X0.here hx rfl (hb hby d2_33) rfl (l' := #[.val (.int p1), .val (.int (0 : Int32))]) rfl ?_
              refine XS.iloadN X0.here hx rfl (hb hby d2_34) rfl ?_
              refine XS.ifNo X0.here hx rfl (hb hby d2_35) rfl (XT.i0_ne_f (by decide)) ?_
              refine XS.iloadN X0.here hx rfl (hb hby d2_38) rfl ?_
              refine XT.bipushV X0.here hx rfl (127 : Int32) (hb hby d2_39) rfl ?_
              exact cont
            by_cases hc12 : p1 < (127 : Int32)
            ·
              refine own_go (B := s₁.setTop (mkF m 63 #[.val (.int p1), .val (.int (0 : Int32))] [(.int (0 : Int32))])) (fun tgt cont => ?_) ?_
              · refine XS.icmpYes X0.here hx rfl (pc0 := 41) (pc' := 62) rfl (hb hby d2_41) rfl (XT.ii_lt_t hc12) (by decide) (by decide) ?_
                refine XT.iconstV X0.here hx rfl (0 : Int32) (hb hby d2_62) rfl ?_
                exact cont
              refine own_end X0 (v := some (.int (0 : Int32))) (fun h => by rw [Bd.returns] at h; cases h) hlk ?_ (by decide) (by decide) (fun fs hl => retN X0 hx (t := .boolean) Bd.returns (by simp) (hb hby d2_63) hl)
              exact ⟨(by unfold own_restr; first | exact rfl | (simp only [if_pos hc1, if_pos hc2, if_neg hc3, if_neg hc7, if_pos hc11, if_pos hc12]; first | done | exact rfl)), N0, e0⟩
            ·
              refine own_go (B := s₁.setTop (mkF m 48 #[.val (.int p1), .val (.int (0 : Int32))] [(.int (159 : Int32)), (.int p1)])) (fun tgt cont => ?_) ?_
              · refine XS.icmpNo X0.here hx rfl (hb hby d2_41) rfl (XT.ii_lt_f hc12) ?_
                refine XS.iloadN X0.here hx rfl (hb hby d2_44) rfl ?_
                refine XT.sipushV X0.here hx rfl (159 : Int32) (hb hby d2_45) rfl ?_
                exact cont
              by_cases hc13 : (159 : Int32) < p1
              ·
                refine own_go (B := s₁.setTop (mkF m 63 #[.val (.int p1), .val (.int (0 : Int32))] [(.int (0 : Int32))])) (fun tgt cont => ?_) ?_
                · refine XS.icmpYes X0.here hx rfl (pc0 := 48) (pc' := 62) rfl (hb hby d2_48) rfl (XT.ii_gt_t hc13) (by decide) (by decide) ?_
                  refine XT.iconstV X0.here hx rfl (0 : Int32) (hb hby d2_62) rfl ?_
                  exact cont
                refine own_end X0 (v := some (.int (0 : Int32))) (fun h => by rw [Bd.returns] at h; cases h) hlk ?_ (by decide) (by decide) (fun fs hl => retN X0 hx (t := .boolean) Bd.returns (by simp) (hb hby d2_63) hl)
                exact ⟨(by unfold own_restr; first | exact rfl | (simp only [if_pos hc1, if_pos hc2, if_neg hc3, if_neg hc7, if_pos hc11, if_neg hc12, if_pos hc13]; first | done | exact rfl)), N0, e0⟩
              ·
                refine own_go (B := s₁.setTop (mkF m 55 #[.val (.int p1), .val (.int (0 : Int32))] [(.int (133 : Int32)), (.int p1)])) (fun tgt cont => ?_) ?_
                · refine XS.icmpNo X0.here hx rfl (hb hby d2_48) rfl (XT.ii_gt_f hc13) ?_
                  refine XS.iloadN X0.here hx rfl (hb hby d2_51) rfl ?_
                  refine XT.sipushV X0.here hx rfl (133 : Int32) (hb hby d2_52) rfl ?_
                  exact cont
                by_cases hc14 : p1 = (133 : Int32)
                ·
                  refine own_go (B := s₁.setTop (mkF m 63 #[.val (.int p1), .val (.int (0 : Int32))] [(.int (0 : Int32))])) (fun tgt cont => ?_) ?_
                  · refine XS.icmpYes X0.here hx rfl (pc0 := 55) (pc' := 62) rfl (hb hby d2_55) rfl (XT.ii_eq_t hc14) (by decide) (by decide) ?_
                    refine XT.iconstV X0.here hx rfl (0 : Int32) (hb hby d2_62) rfl ?_
                    exact cont
                  refine own_end X0 (v := some (.int (0 : Int32))) (fun h => by rw [Bd.returns] at h; cases h) hlk ?_ (by decide) (by decide) (fun fs hl => retN X0 hx (t := .boolean) Bd.returns (by simp) (hb hby d2_63) hl)
                  exact ⟨(by unfold own_restr; first | exact rfl | (simp only [if_pos hc1, if_pos hc2, if_neg hc3, if_neg hc7, if_pos hc11, if_neg hc12, if_neg hc13, if_pos hc14]; first | done | exact rfl)), N0, e0⟩
                ·
                  refine own_go (B := s₁.setTop (mkF m 63 #[.val (.int p1), .val (.int (0 : Int32))] [(.int (1 : Int32))])) (fun tgt cont => ?_) ?_
                  · refine XS.icmpNo X0.here hx rfl (hb hby d2_55) rfl (XT.ii_eq_f hc14) ?_
                    refine XT.iconstV X0.here hx rfl (1 : Int32) (hb hby d2_58) rfl ?_
                    refine XS.goto X0.here hx rfl (pc0 := 59) (pc' := 63) rfl (hb hby d2_59) (by decide) (by decide) ?_
                    exact cont
                  refine own_end X0 (v := some (.int (1 : Int32))) (fun h => by rw [Bd.returns] at h; cases h) hlk ?_ (by decide) (by decide) (fun fs hl => retN X0 hx (t := .boolean) Bd.returns (by simp) (hb hby d2_63) hl)
                  exact ⟨(by unfold own_restr; first | exact rfl | (simp only [if_pos hc1, if_pos hc2, if_neg hc3, if_neg hc7, if_pos hc11, if_neg hc12, if_neg hc13, if_neg hc14]; first | done | exact rfl)), N0, e0⟩
          ·
            refine own_go (B := s₁.setTop (mkF m 63 #[.val (.int p1), .val (.int (1 : Int32))] [(.int (1 : Int32))])) (fun tgt cont => ?_) ?_
            · refine XS.icmpNo X0.here hx rfl (hb hby d2_25) rfl (XT.ii_eq_f hc11) ?_
              refine XT.iconstV X0.here hx rfl (1 : Int32) (hb hby d2_28) rfl ?_
              refine XS.goto X0.here hx rfl (pc0 := 29) (pc' := 33) rfl (hb hby d2_29) (by decide) (by decide) ?_
              refine XS.istoreN X0.here hx rfl (hb hby d2_33) rfl (l' := #[.val (.int p1), .val (.int (1 : Int32))]) rfl ?_
              refine XS.iloadN X0.here hx rfl (hb hby d2_34) rfl ?_
              refine XS.ifYes X0.here hx rfl (pc0 := 35) (pc' := 58) rfl (hb hby d2_35) rfl (XT.i0_ne_t (by decide)) (by decide) (by decide) ?_
              refine XT.iconstV X0.here hx rfl (1 : Int32) (hb hby d2_58) rfl ?_
              refine XS.goto X0.here hx rfl (pc0 := 59) (pc' := 63) rfl (hb hby d2_59) (by decide) (by decide) ?_
              exact cont
            refine own_end X0 (v := some (.int (1 : Int32))) (fun h => by rw [Bd.returns] at h; cases h) hlk ?_ (by decide) (by decide) (fun fs hl => retN X0 hx (t := .boolean) Bd.returns (by simp) (hb hby d2_63) hl)
            exact ⟨(by unfold own_restr; first | exact rfl | (simp only [if_pos hc1, if_pos hc2, if_neg hc3, if_neg hc7, if_neg hc11]; first | done | exact rfl)), N0, e0⟩
    ·
      refine own_go (B := s₁.setTop (mkF m 41 #[.val (.int p1), .val (.int (0 : Int32))] [(.int (127 : Int32)), (.int p1)])) (fun tgt cont => ?_) ?_
      · refine XS.icmpYes X0.here hx rfl (pc0 := 7) (pc' := 32) rfl (hb hby d2_7) rfl (XT.ii_ge_t hc2) (by decide) (by decide) ?_
        refine XT.iconstV X0.here hx rfl (0 : Int32) (hb hby d2_32) rfl ?_
        refine XS.istoreN X0.here hx rfl (hb hby d2_33) rfl (l' := #[.val (.int p1), .val (.int (0 : Int32))]) rfl ?_
        refine XS.iloadN X0.here hx rfl (hb hby d2_34) rfl ?_
        refine XS.ifNo X0.here hx rfl (hb hby d2_35) rfl (XT.i0_ne_f (by decide)) ?_
        refine XS.iloadN X0.here hx rfl (hb hby d2_38) rfl ?_
        refine XT.bipushV X0.here hx rfl (127 : Int32) (hb hby d2_39) rfl ?_
        exact cont
      by_cases hc15 : p1 < (127 : Int32)
      ·
        refine own_go (B := s₁.setTop (mkF m 63 #[.val (.int p1), .val (.int (0 : Int32))] [(.int (0 : Int32))])) (fun tgt cont => ?_) ?_
        · refine XS.icmpYes X0.here hx rfl (pc0 := 41) (pc' := 62) rfl (hb hby d2_41) rfl (XT.ii_lt_t hc15) (by decide) (by decide) ?_
          refine XT.iconstV X0.here hx rfl (0 : Int32) (hb hby d2_62) rfl ?_
          exact cont
        refine own_end X0 (v := some (.int (0 : Int32))) (fun h => by rw [Bd.returns] at h; cases h) hlk ?_ (by decide) (by decide) (fun fs hl => retN X0 hx (t := .boolean) Bd.returns (by simp) (hb hby d2_63) hl)
        exact ⟨(by unfold own_restr; first | exact rfl | (simp only [if_pos hc1, if_neg hc2, if_pos hc15]; first | done | exact rfl)), N0, e0⟩
      ·
        refine own_go (B := s₁.setTop (mkF m 48 #[.val (.int p1), .val (.int (0 : Int32))] [(.int (159 : Int32)), (.int p1)])) (fun tgt cont => ?_) ?_
        · refine XS.icmpNo X0.here hx rfl (hb hby d2_41) rfl (XT.ii_lt_f hc15) ?_
          refine XS.iloadN X0.here hx rfl (hb hby d2_44) rfl ?_
          refine XT.sipushV X0.here hx rfl (159 : Int32) (hb hby d2_45) rfl ?_
          exact cont
        by_cases hc16 : (159 : Int32) < p1
        ·
          refine own_go (B := s₁.setTop (mkF m 63 #[.val (.int p1), .val (.int (0 : Int32))] [(.int (0 : Int32))])) (fun tgt cont => ?_) ?_
          · refine XS.icmpYes X0.here hx rfl (pc0 := 48) (pc' := 62) rfl (hb hby d2_48) rfl (XT.ii_gt_t hc16) (by decide) (by decide) ?_
            refine XT.iconstV X0.here hx rfl (0 : Int32) (hb hby d2_62) rfl ?_
            exact cont
          refine own_end X0 (v := some (.int (0 : Int32))) (fun h => by rw [Bd.returns] at h; cases h) hlk ?_ (by decide) (by decide) (fun fs hl => retN X0 hx (t := .boolean) Bd.returns (by simp) (hb hby d2_63) hl)
          exact ⟨(by unfold own_restr; first | exact rfl | (simp only [if_pos hc1, if_neg hc2, if_neg hc15, if_pos hc16]; first | done | exact rfl)), N0, e0⟩
        ·
          refine own_go (B := s₁.setTop (mkF m 55 #[.val (.int p1), .val (.int (0 : Int32))] [(.int (133 : Int32)), (.int p1)])) (fun tgt cont => ?_) ?_
          · refine XS.icmpNo X0.here hx rfl (hb hby d2_48) rfl (XT.ii_gt_f hc16) ?_
            refine XS.iloadN X0.here hx rfl (hb hby d2_51) rfl ?_
            refine XT.sipushV X0.here hx rfl (133 : Int32) (hb hby d2_52) rfl ?_
            exact cont
          by_cases hc17 : p1 = (133 : Int32)
          ·
            refine own_go (B := s₁.setTop (mkF m 63 #[.val (.int p1), .val (.int (0 : Int32))] [(.int (0 : Int32))])) (fun tgt cont => ?_) ?_
            · refine XS.icmpYes X0.here hx rfl (pc0 := 55) (pc' := 62) rfl (hb hby d2_55) rfl (XT.ii_eq_t hc17) (by decide) (by decide) ?_
              refine XT.iconstV X0.here hx rfl (0 : Int32) (hb hby d2_62) rfl ?_
              exact cont
            refine own_end X0 (v := some (.int (0 : Int32))) (fun h => by rw [Bd.returns] at h; cases h) hlk ?_ (by decide) (by decide) (fun fs hl => retN X0 hx (t := .boolean) Bd.returns (by simp) (hb hby d2_63) hl)
            exact ⟨(by unfold own_restr; first | exact rfl | (simp only [if_pos hc1, if_neg hc2, if_neg hc15, if_neg hc16, if_pos hc17]; first | done | exact rfl)), N0, e0⟩
          ·
            refine own_go (B := s₁.setTop (mkF m 63 #[.val (.int p1), .val (.int (0 : Int32))] [(.int (1 : Int32))])) (fun tgt cont => ?_) ?_
            · refine XS.icmpNo X0.here hx rfl (hb hby d2_55) rfl (XT.ii_eq_f hc17) ?_
              refine XT.iconstV X0.here hx rfl (1 : Int32) (hb hby d2_58) rfl ?_
              refine XS.goto X0.here hx rfl (pc0 := 59) (pc' := 63) rfl (hb hby d2_59) (by decide) (by decide) ?_
              exact cont
            refine own_end X0 (v := some (.int (1 : Int32))) (fun h => by rw [Bd.returns] at h; cases h) hlk ?_ (by decide) (by decide) (fun fs hl => retN X0 hx (t := .boolean) Bd.returns (by simp) (hb hby d2_63) hl)
            exact ⟨(by unfold own_restr; first | exact rfl | (simp only [if_pos hc1, if_neg hc2, if_neg hc15, if_neg hc16, if_neg hc17]; first | done | exact rfl)), N0, e0⟩
  ·
    refine own_go (B := s₁.setTop (mkF m 41 #[.val (.int p1), .val (.int (0 : Int32))] [(.int (127 : Int32)), (.int p1)])) (fun tgt cont => ?_) ?_
    · refine XS.ifYes X0.here hx rfl (pc0 := 1) (pc' := 32) rfl (hb hby d2_1) rfl (XT.i0_le_t hc1) (by decide) (by decide) ?_
      refine XT.iconstV X0.here hx rfl (0 : Int32) (hb hby d2_32) rfl ?_
      refine XS.istoreN X0.here hx rfl (hb hby d2_33) rfl (l' := #[.val (.int p1), .val (.int (0 : Int32))]) rfl ?_
      refine XS.iloadN X0.here hx rfl (hb hby d2_34) rfl ?_
      refine XS.ifNo X0.here hx rfl (hb hby d2_35) rfl (XT.i0_ne_f (by decide)) ?_
      refine XS.iloadN X0.here hx rfl (hb hby d2_38) rfl ?_
      refine XT.bipushV X0.here hx rfl (127 : Int32) (hb hby d2_39) rfl ?_
      exact cont
    by_cases hc18 : p1 < (127 : Int32)
    ·
      refine own_go (B := s₁.setTop (mkF m 63 #[.val (.int p1), .val (.int (0 : Int32))] [(.int (0 : Int32))])) (fun tgt cont => ?_) ?_
      · refine XS.icmpYes X0.here hx rfl (pc0 := 41) (pc' := 62) rfl (hb hby d2_41) rfl (XT.ii_lt_t hc18) (by decide) (by decide) ?_
        refine XT.iconstV X0.here hx rfl (0 : Int32) (hb hby d2_62) rfl ?_
        exact cont
      refine own_end X0 (v := some (.int (0 : Int32))) (fun h => by rw [Bd.returns] at h; cases h) hlk ?_ (by decide) (by decide) (fun fs hl => retN X0 hx (t := .boolean) Bd.returns (by simp) (hb hby d2_63) hl)
      exact ⟨(by unfold own_restr; first | exact rfl | (simp only [if_neg hc1, if_pos hc18]; first | done | exact rfl)), N0, e0⟩
    ·
      refine own_go (B := s₁.setTop (mkF m 48 #[.val (.int p1), .val (.int (0 : Int32))] [(.int (159 : Int32)), (.int p1)])) (fun tgt cont => ?_) ?_
      · refine XS.icmpNo X0.here hx rfl (hb hby d2_41) rfl (XT.ii_lt_f hc18) ?_
        refine XS.iloadN X0.here hx rfl (hb hby d2_44) rfl ?_
        refine XT.sipushV X0.here hx rfl (159 : Int32) (hb hby d2_45) rfl ?_
        exact cont
      by_cases hc19 : (159 : Int32) < p1
      ·
        refine own_go (B := s₁.setTop (mkF m 63 #[.val (.int p1), .val (.int (0 : Int32))] [(.int (0 : Int32))])) (fun tgt cont => ?_) ?_
        · refine XS.icmpYes X0.here hx rfl (pc0 := 48) (pc' := 62) rfl (hb hby d2_48) rfl (XT.ii_gt_t hc19) (by decide) (by decide) ?_
          refine XT.iconstV X0.here hx rfl (0 : Int32) (hb hby d2_62) rfl ?_
          exact cont
        refine own_end X0 (v := some (.int (0 : Int32))) (fun h => by rw [Bd.returns] at h; cases h) hlk ?_ (by decide) (by decide) (fun fs hl => retN X0 hx (t := .boolean) Bd.returns (by simp) (hb hby d2_63) hl)
        exact ⟨(by unfold own_restr; first | exact rfl | (simp only [if_neg hc1, if_neg hc18, if_pos hc19]; first | done | exact rfl)), N0, e0⟩
      ·
        refine own_go (B := s₁.setTop (mkF m 55 #[.val (.int p1), .val (.int (0 : Int32))] [(.int (133 : Int32)), (.int p1)])) (fun tgt cont => ?_) ?_
        · refine XS.icmpNo X0.here hx rfl (hb hby d2_48) rfl (XT.ii_gt_f hc19) ?_
          refine XS.iloadN X0.here hx rfl (hb hby d2_51) rfl ?_
          refine XT.sipushV X0.here hx rfl (133 : Int32) (hb hby d2_52) rfl ?_
          exact cont
        by_cases hc20 : p1 = (133 : Int32)
        ·
          refine own_go (B := s₁.setTop (mkF m 63 #[.val (.int p1), .val (.int (0 : Int32))] [(.int (0 : Int32))])) (fun tgt cont => ?_) ?_
          · refine XS.icmpYes X0.here hx rfl (pc0 := 55) (pc' := 62) rfl (hb hby d2_55) rfl (XT.ii_eq_t hc20) (by decide) (by decide) ?_
            refine XT.iconstV X0.here hx rfl (0 : Int32) (hb hby d2_62) rfl ?_
            exact cont
          refine own_end X0 (v := some (.int (0 : Int32))) (fun h => by rw [Bd.returns] at h; cases h) hlk ?_ (by decide) (by decide) (fun fs hl => retN X0 hx (t := .boolean) Bd.returns (by simp) (hb hby d2_63) hl)
          exact ⟨(by unfold own_restr; first | exact rfl | (simp only [if_neg hc1, if_neg hc18, if_neg hc19, if_pos hc20]; first | done | exact rfl)), N0, e0⟩
        ·
          refine own_go (B := s₁.setTop (mkF m 63 #[.val (.int p1), .val (.int (0 : Int32))] [(.int (1 : Int32))])) (fun tgt cont => ?_) ?_
          · refine XS.icmpNo X0.here hx rfl (hb hby d2_55) rfl (XT.ii_eq_f hc20) ?_
            refine XT.iconstV X0.here hx rfl (1 : Int32) (hb hby d2_58) rfl ?_
            refine XS.goto X0.here hx rfl (pc0 := 59) (pc' := 63) rfl (hb hby d2_59) (by decide) (by decide) ?_
            exact cont
          refine own_end X0 (v := some (.int (1 : Int32))) (fun h => by rw [Bd.returns] at h; cases h) hlk ?_ (by decide) (by decide) (fun fs hl => retN X0 hx (t := .boolean) Bd.returns (by simp) (hb hby d2_63) hl)
          exact ⟨(by unfold own_restr; first | exact rfl | (simp only [if_neg hc1, if_neg hc18, if_neg hc19, if_neg hc20]; first | done | exact rfl)), N0, e0⟩
theorem own_in0 (a b c : Int32) : own_in a b c = 0 ↔ (a < b ∨ c < a) := by
  unfold own_in
  by_cases h1 : a < b
  · simp [h1]
  · by_cases h2 : c < a
    · simp [h1, h2]
    · simp [h1, h2]
set_option maxHeartbeats 40000000 in
theorem own_same (c : Int32) : own_restr c = ((if ((own_in c (1 : Int32) (8 : Int32))) = 0 then (if ((own_in c (11 : Int32) (12 : Int32))) = 0 then (if ((own_in c (14 : Int32) (31 : Int32))) = 0 then (if ((own_in c (127 : Int32) (132 : Int32))) = 0 then (if ((own_in c (134 : Int32) (159 : Int32))) = 0 then (0 : Int32) else (1 : Int32)) else (1 : Int32)) else (1 : Int32)) else (1 : Int32)) else (1 : Int32))) := by
  unfold own_restr
  simp only [own_in0]
  simp only [Int32.lt_iff_toInt_lt, ← Int32.toInt_inj]
  have el0 : (0 : Int32).toInt = 0 := rfl
  have el1 : (1 : Int32).toInt = 1 := rfl
  have el8 : (8 : Int32).toInt = 8 := rfl
  have el9 : (9 : Int32).toInt = 9 := rfl
  have el10 : (10 : Int32).toInt = 10 := rfl
  have el11 : (11 : Int32).toInt = 11 := rfl
  have el12 : (12 : Int32).toInt = 12 := rfl
  have el13 : (13 : Int32).toInt = 13 := rfl
  have el14 : (14 : Int32).toInt = 14 := rfl
  have el31 : (31 : Int32).toInt = 31 := rfl
  have el32 : (32 : Int32).toInt = 32 := rfl
  have el127 : (127 : Int32).toInt = 127 := rfl
  have el132 : (132 : Int32).toInt = 132 := rfl
  have el133 : (133 : Int32).toInt = 133 := rfl
  have el134 : (134 : Int32).toInt = 134 := rfl
  have el159 : (159 : Int32).toInt = 159 := rfl
  simp only [el0, el1, el8, el9, el10, el11, el12, el13, el14, el31, el32, el127, el132, el133, el134, el159]
  generalize c.toInt = i
  repeat' split
  all_goals first | rfl | (exfalso; omega)
def Q0 (n0 : Nat) (v : Option Value) (h : Heap) (L : List Loc) : Prop := v = some (.int (1 : Int32)) ∧ Fr n0 L
theorem own_pd0 : parseMethodDescriptor "(III)Z" = some ⟨[.int, .int, .int], some .boolean⟩ := by decide +kernel
theorem own_pd1 : parseMethodDescriptor "(I)Z" = some ⟨[.int], some .boolean⟩ := by decide +kernel
set_option maxRecDepth 65536 in
set_option maxHeartbeats 40000000 in
theorem rm0 (l : Launch) (Z : State) (a0 : Array Value) (hw : ∀ d ∈ tables_1, d.before a0 Z = true) (ws : List Jvm.Cond) (p1 : Int32) (p2 : Int32) (h0 : Heap) (n0 : Nat) (Z0 : n0 ≤ h0.size)  :
    MetFree l x (head1 (Jvm.Cond.code x code maxLocals ret :: ws) room_1) (fun aa U => aa = #[(.int p1), (.int p2)] ∧ Z.Warmed39 U.vm ∧ U.heap = h0) (fun _ _ _ _ _ => True) (fun _ U o U' => ∃ v L, o = .returned v ∧ Q0 n0 v U'.heap L ∧ FrameEnd U o U' L room_1.cells room_1.slots) := by
  refine MetFree.of_bodySF (plainFor_of_name own_pn0) hisR ?_
  intro p e s m args below meth c s₁ Bd hml0 hP hK
  obtain ⟨rfl, hZ, hh⟩ := hP
  have hx := Bd.exec
  have hby := Bd.bytes
  have hml : c.maxLocals = 4 := hml0
  have hlk : meth.locks = false := BodyLoose.notSynchronized Bd
  have hown : s.vm.findClass "com/example/attlist/attlist/XmlCharsIsRestrictedCharPinLaw" = some m.cls := findClass_of_methodNamed Bd.named
  have hnm := (name_of_methodNamed Bd.named Bd.method).1
  have X0 : Stand p l e room_1 s m #[(.int p1), (.int p2)] below meth c s₁ [] 0 0 := Stand.of_body Bd
  have e0 : s₁.heap = h0 := by rw [← hh, Bd.state]; rfl
  have N0 := Fr.nil n0
  show own_Go p e below s (Q0 n0) room_1.cells room_1.slots (s₁.setTop (entryFrame m #[(.int p1), (.int p2)] maxLocals))
  refine own_go (B := s₁.setTop (mkF m 0 #[.val (.int p1), .val (.int p2), .unset, .unset] [])) (fun tgt cont => (XT.entry rfl).trans cont) ?_
  refine own_go (B := s₁.setTop (mkF m 3 #[.val (.int p1), .val (.int p2), .unset, .unset] [(.int (p2 &&& (1 : Int32)))])) (fun tgt cont => ?_) ?_
  · refine XS.iloadN X0.here hx rfl (hb hby at_0) rfl ?_
    refine XT.iconstV X0.here hx rfl (1 : Int32) (hb hby at_1) rfl ?_
    refine XS.iand X0.here hx rfl (hb hby at_2) rfl ?_
    exact cont
  have K1 : ∀ (v2 : Int32) (hv2 : v2 = (if (p2 &&& (1 : Int32)) = 0 then (p1 % (162 : Int32)) else p1)), own_Go p e below s (Q0 n0) room_1.cells room_1.slots (s₁.setTop (mkF m 15 #[.val (.int p1), .val (.int p2), .unset, .unset] [(.int v2)])) := by
    intro v2 hv2
    refine own_go (B := s₁.setTop (mkF m 20 #[.val (.int p1), .val (.int p2), .val (.int v2), .unset] [(.int (8 : Int32)), (.int (1 : Int32)), (.int v2)])) (fun tgt cont => ?_) ?_
    · refine XS.istoreN X0.here hx rfl (hb hby at_15) rfl (l' := #[.val (.int p1), .val (.int p2), .val (.int v2), .unset]) rfl ?_
      refine XS.iloadN X0.here hx rfl (hb hby at_16) rfl ?_
      refine XT.iconstV X0.here hx rfl (1 : Int32) (hb hby at_17) rfl ?_
      refine XT.bipushV X0.here hx rfl (8 : Int32) (hb hby at_18) rfl ?_
      exact cont
    -- pc 20: XmlCharsIsRestrictedCharPinLaw.in
    obtain ⟨_, _, ⟨T3, L3, k3, n3⟩, -, X3, ⟨Lc3, hQ3, l3, y3, z3⟩, st3⟩ := Jvm.LawKit.callS X0 hx (y := (⟨"com/example/attlist/attlist/XmlCharsIsRestrictedCharPinLaw", "in", "(III)Z"⟩ : MethodName)) hown (mvT hZ (hw _ (List.mem_of_getElem? (i := 0) rfl))) (mvT hZ (hw _ (List.mem_of_getElem? (i := 1) rfl))) (mvT hZ (hw _ (List.mem_of_getElem? (i := 2) rfl))) (mvT hZ (hw _ (List.mem_of_getElem? (i := 3) rfl))) (by decide) (backOf (W := 0) (rm1 l Z a0 hw [] v2 (1 : Int32) (8 : Int32) h0 n0 Z0 ) hZ (hw _ (List.mem_of_getElem? (i := 3) rfl)) (hw _ (List.mem_of_getElem? (i := 2) rfl)) (by decide) (by decide)) (g := (mkF m 20 #[.val (.int p1), .val (.int p2), .val (.int v2), .unset] [(.int (8 : Int32)), (.int (1 : Int32)), (.int v2)])) rfl (by rw [hml]; rfl) (argsL := [(.int v2), (.int (1 : Int32)), (.int (8 : Int32))]) (rest := []) (lenOf own_pd0 rfl) rfl (by show 2 * 0 + _ ≤ _; exact Nat.le_of_eq rfl) (hb hby at_20) (fun _ _ => ⟨rfl, e0, (by decide : 0 + 0 ≤ _), (by decide : 0 + 0 ≤ _)⟩)
    dsimp only [Pt.U, Pt.locs, Pt.cells, Pt.slots] at X3 l3 y3 z3 st3 hQ3
    subst l3 y3 z3
    obtain ⟨rfl, N3q, e3⟩ := hQ3
    have N3 := Fr.app N0 N3q
    refine own_go (fun tgt cont => st3 tgt cont) ?_
    show own_Go p e below s (Q0 n0) room_1.cells room_1.slots (T3.setTop (mkF m 23 #[.val (.int p1), .val (.int p2), .val (.int v2), .unset] [(.int (own_in v2 (1 : Int32) (8 : Int32)))]))
    generalize hr4 : (own_in v2 (1 : Int32) (8 : Int32)) = r4
    have K5 : ∀ (T5 : State) (L5 : List Loc) (v6 : Int32) (X5 : Stand p l e room_1 s m #[(.int p1), (.int p2)] below meth c T5 L5 0 0) (e5 : T5.heap = h0) (N5 : Fr n0 L5) (hv6 : v6 = (if r4 = 0 then (if ((own_in v2 (11 : Int32) (12 : Int32))) = 0 then (if ((own_in v2 (14 : Int32) (31 : Int32))) = 0 then (if ((own_in v2 (127 : Int32) (132 : Int32))) = 0 then (if ((own_in v2 (134 : Int32) (159 : Int32))) = 0 then (0 : Int32) else (1 : Int32)) else (1 : Int32)) else (1 : Int32)) else (1 : Int32)) else (1 : Int32))), own_Go p e below s (Q0 n0) room_1.cells room_1.slots (T5.setTop (mkF m 78 #[.val (.int p1), .val (.int p2), .val (.int v2), .unset] [(.int v6)])) := by
      intro T5 L5 v6 X5 e5 N5 hv6
      refine own_go (B := T5.setTop (mkF m 80 #[.val (.int p1), .val (.int p2), .val (.int v2), .val (.int v6)] [(.int v2)])) (fun tgt cont => ?_) ?_
      · refine XS.istoreN X5.here hx rfl (hb hby at_78) rfl (l' := #[.val (.int p1), .val (.int p2), .val (.int v2), .val (.int v6)]) rfl ?_
        refine XS.iloadN X5.here hx rfl (hb hby at_79) rfl ?_
        exact cont
      -- pc 80: XmlChars.isRestrictedChar
      obtain ⟨_, _, ⟨T7, L7, k7, n7⟩, -, X7, ⟨Lc7, hQ7, l7, y7, z7⟩, st7⟩ := Jvm.LawKit.callS X5 hx (y := (⟨"com/example/attlist/attlist/XmlChars", "isRestrictedChar", "(I)Z"⟩ : MethodName)) hown (mvT hZ (hw _ (List.mem_of_getElem? (i := 4) rfl))) (mvT hZ (hw _ (List.mem_of_getElem? (i := 5) rfl))) (mvT hZ (hw _ (List.mem_of_getElem? (i := 6) rfl))) (mvT hZ (hw _ (List.mem_of_getElem? (i := 7) rfl))) (by decide) (backOf (W := 0) (rm2 l Z a0 hw [] v2 h0 n0 Z0 ) hZ (hw _ (List.mem_of_getElem? (i := 7) rfl)) (hw _ (List.mem_of_getElem? (i := 6) rfl)) (by decide) (by decide)) (g := (mkF m 80 #[.val (.int p1), .val (.int p2), .val (.int v2), .val (.int v6)] [(.int v2)])) rfl (by rw [hml]; rfl) (argsL := [(.int v2)]) (rest := []) (lenOf own_pd1 rfl) rfl (by show 2 * 0 + _ ≤ _; exact Nat.le_of_eq rfl) (hb hby at_80) (fun _ _ => ⟨rfl, e5, (by decide : 0 + 0 ≤ _), (by decide : 0 + 0 ≤ _)⟩)
      dsimp only [Pt.U, Pt.locs, Pt.cells, Pt.slots] at X7 l7 y7 z7 st7 hQ7
      subst l7 y7 z7
      obtain ⟨rfl, N7q, e7⟩ := hQ7
      have N7 := Fr.app N5 N7q
      refine own_go (fun tgt cont => st7 tgt cont) ?_
      show own_Go p e below s (Q0 n0) room_1.cells room_1.slots (T7.setTop (mkF m 83 #[.val (.int p1), .val (.int p2), .val (.int v2), .val (.int v6)] [(.int (own_restr v2))]))
      generalize hr8 : (own_restr v2) = r8
      refine own_go (B := T7.setTop (mkF m 84 #[.val (.int p1), .val (.int p2), .val (.int v2), .val (.int v6)] [(.int v6), (.int r8)])) (fun tgt cont => ?_) ?_
      · refine XS.iloadN X7.here hx rfl (hb hby at_83) rfl ?_
        exact cont
      by_cases hc9 : r8 = v6
      ·
        refine own_go (B := T7.setTop (mkF m 92 #[.val (.int p1), .val (.int p2), .val (.int v2), .val (.int v6)] [(.int (1 : Int32))])) (fun tgt cont => ?_) ?_
        · refine XS.icmpNo X7.here hx rfl (hb hby at_84) rfl (XT.ii_ne_f hc9) ?_
          refine XT.iconstV X7.here hx rfl (1 : Int32) (hb hby at_87) rfl ?_
          refine XS.goto X7.here hx rfl (pc0 := 88) (pc' := 92) rfl (hb hby at_88) (by decide) (by decide) ?_
          exact cont
        refine own_end X7 (v := some (.int (1 : Int32))) (fun h => by rw [Bd.returns] at h; cases h) hlk ?_ (by decide) (by decide) (fun fs hl => retN X7 hx (t := .boolean) Bd.returns (by simp) (hb hby at_92) hl)
        exact ⟨rfl, N7⟩
      ·
        refine own_go (B := T7.setTop (mkF m 92 #[.val (.int p1), .val (.int p2), .val (.int v2), .val (.int v6)] [(.int (0 : Int32))])) (fun tgt cont => ?_) ?_
        · refine XS.icmpYes X7.here hx rfl (pc0 := 84) (pc' := 91) rfl (hb hby at_84) rfl (XT.ii_ne_t hc9) (by decide) (by decide) ?_
          refine XT.iconstV X7.here hx rfl (0 : Int32) (hb hby at_91) rfl ?_
          exact cont
        refine own_end X7 (v := some (.int (0 : Int32))) (fun h => by rw [Bd.returns] at h; cases h) hlk ?_ (by decide) (by decide) (fun fs hl => retN X7 hx (t := .boolean) Bd.returns (by simp) (hb hby at_92) hl)
        refine ⟨?_, N7⟩
        subst hr8 hr4 hv6
        exact absurd (own_same v2) hc9
    by_cases hc10 : r4 = 0
    ·
      refine own_go (B := T3.setTop (mkF m 31 #[.val (.int p1), .val (.int p2), .val (.int v2), .unset] [(.int (12 : Int32)), (.int (11 : Int32)), (.int v2)])) (fun tgt cont => ?_) ?_
      · refine XS.ifNo X3.here hx rfl (hb hby at_23) rfl (XT.i0_ne_f hc10) ?_
        refine XS.iloadN X3.here hx rfl (hb hby at_26) rfl ?_
        refine XT.bipushV X3.here hx rfl (11 : Int32) (hb hby at_27) rfl ?_
        refine XT.bipushV X3.here hx rfl (12 : Int32) (hb hby at_29) rfl ?_
        exact cont
      -- pc 31: XmlCharsIsRestrictedCharPinLaw.in
      obtain ⟨_, _, ⟨T11, L11, k11, n11⟩, -, X11, ⟨Lc11, hQ11, l11, y11, z11⟩, st11⟩ := Jvm.LawKit.callS X3 hx (y := (⟨"com/example/attlist/attlist/XmlCharsIsRestrictedCharPinLaw", "in", "(III)Z"⟩ : MethodName)) hown (mvT hZ (hw _ (List.mem_of_getElem? (i := 0) rfl))) (mvT hZ (hw _ (List.mem_of_getElem? (i := 1) rfl))) (mvT hZ (hw _ (List.mem_of_getElem? (i := 2) rfl))) (mvT hZ (hw _ (List.mem_of_getElem? (i := 3) rfl))) (by decide) (backOf (W := 0) (rm1 l Z a0 hw [] v2 (11 : Int32) (12 : Int32) h0 n0 Z0 ) hZ (hw _ (List.mem_of_getElem? (i := 3) rfl)) (hw _ (List.mem_of_getElem? (i := 2) rfl)) (by decide) (by decide)) (g := (mkF m 31 #[.val (.int p1), .val (.int p2), .val (.int v2), .unset] [(.int (12 : Int32)), (.int (11 : Int32)), (.int v2)])) rfl (by rw [hml]; rfl) (argsL := [(.int v2), (.int (11 : Int32)), (.int (12 : Int32))]) (rest := []) (lenOf own_pd0 rfl) rfl (by show 2 * 0 + _ ≤ _; exact Nat.le_of_eq rfl) (hb hby at_31) (fun _ _ => ⟨rfl, e3, (by decide : 0 + 0 + 0 ≤ _), (by decide : 0 + 0 + 0 ≤ _)⟩)
      dsimp only [Pt.U, Pt.locs, Pt.cells, Pt.slots] at X11 l11 y11 z11 st11 hQ11
      subst l11 y11 z11
      obtain ⟨rfl, N11q, e11⟩ := hQ11
      have N11 := Fr.app N3 N11q
      refine own_go (fun tgt cont => st11 tgt cont) ?_
      show own_Go p e below s (Q0 n0) room_1.cells room_1.slots (T11.setTop (mkF m 34 #[.val (.int p1), .val (.int p2), .val (.int v2), .unset] [(.int (own_in v2 (11 : Int32) (12 : Int32)))]))
      generalize hr12 : (own_in v2 (11 : Int32) (12 : Int32)) = r12
      by_cases hc13 : r12 = 0
      ·
        refine own_go (B := T11.setTop (mkF m 42 #[.val (.int p1), .val (.int p2), .val (.int v2), .unset] [(.int (31 : Int32)), (.int (14 : Int32)), (.int v2)])) (fun tgt cont => ?_) ?_
        · refine XS.ifNo X11.here hx rfl (hb hby at_34) rfl (XT.i0_ne_f hc13) ?_
          refine XS.iloadN X11.here hx rfl (hb hby at_37) rfl ?_
          refine XT.bipushV X11.here hx rfl (14 : Int32) (hb hby at_38) rfl ?_
          refine XT.bipushV X11.here hx rfl (31 : Int32) (hb hby at_40) rfl ?_
          exact cont
        -- pc 42: XmlCharsIsRestrictedCharPinLaw.in
        obtain ⟨_, _, ⟨T14, L14, k14, n14⟩, -, X14, ⟨Lc14, hQ14, l14, y14, z14⟩, st14⟩ := Jvm.LawKit.callS X11 hx (y := (⟨"com/example/attlist/attlist/XmlCharsIsRestrictedCharPinLaw", "in", "(III)Z"⟩ : MethodName)) hown (mvT hZ (hw _ (List.mem_of_getElem? (i := 0) rfl))) (mvT hZ (hw _ (List.mem_of_getElem? (i := 1) rfl))) (mvT hZ (hw _ (List.mem_of_getElem? (i := 2) rfl))) (mvT hZ (hw _ (List.mem_of_getElem? (i := 3) rfl))) (by decide) (backOf (W := 0) (rm1 l Z a0 hw [] v2 (14 : Int32) (31 : Int32) h0 n0 Z0 ) hZ (hw _ (List.mem_of_getElem? (i := 3) rfl)) (hw _ (List.mem_of_getElem? (i := 2) rfl)) (by decide) (by decide)) (g := (mkF m 42 #[.val (.int p1), .val (.int p2), .val (.int v2), .unset] [(.int (31 : Int32)), (.int (14 : Int32)), (.int v2)])) rfl (by rw [hml]; rfl) (argsL := [(.int v2), (.int (14 : Int32)), (.int (31 : Int32))]) (rest := []) (lenOf own_pd0 rfl) rfl (by show 2 * 0 + _ ≤ _; exact Nat.le_of_eq rfl) (hb hby at_42) (fun _ _ => ⟨rfl, e11, (by decide : 0 + 0 + 0 + 0 ≤ _), (by decide : 0 + 0 + 0 + 0 ≤ _)⟩)
        dsimp only [Pt.U, Pt.locs, Pt.cells, Pt.slots] at X14 l14 y14 z14 st14 hQ14
        subst l14 y14 z14
        obtain ⟨rfl, N14q, e14⟩ := hQ14
        have N14 := Fr.app N11 N14q
        refine own_go (fun tgt cont => st14 tgt cont) ?_
        show own_Go p e below s (Q0 n0) room_1.cells room_1.slots (T14.setTop (mkF m 45 #[.val (.int p1), .val (.int p2), .val (.int v2), .unset] [(.int (own_in v2 (14 : Int32) (31 : Int32)))]))
        generalize hr15 : (own_in v2 (14 : Int32) (31 : Int32)) = r15
        by_cases hc16 : r15 = 0
        ·
          refine own_go (B := T14.setTop (mkF m 54 #[.val (.int p1), .val (.int p2), .val (.int v2), .unset] [(.int (132 : Int32)), (.int (127 : Int32)), (.int v2)])) (fun tgt cont => ?_) ?_
          · refine XS.ifNo X14.here hx rfl (hb hby at_45) rfl (XT.i0_ne_f hc16) ?_
            refine XS.iloadN X14.here hx rfl (hb hby at_48) rfl ?_
            refine XT.bipushV X14.here hx rfl (127 : Int32) (hb hby at_49) rfl ?_
            refine XT.sipushV X14.here hx rfl (132 : Int32) (hb hby at_51) rfl ?_
            exact cont
          -- pc 54: XmlCharsIsRestrictedCharPinLaw.in
          obtain ⟨_, _, ⟨T17, L17, k17, n17⟩, -, X17, ⟨Lc17, hQ17, l17, y17, z17⟩, st17⟩ := Jvm.LawKit.callS X14 hx (y := (⟨"com/example/attlist/attlist/XmlCharsIsRestrictedCharPinLaw", "in", "(III)Z"⟩ : MethodName)) hown (mvT hZ (hw _ (List.mem_of_getElem? (i := 0) rfl))) (mvT hZ (hw _ (List.mem_of_getElem? (i := 1) rfl))) (mvT hZ (hw _ (List.mem_of_getElem? (i := 2) rfl))) (mvT hZ (hw _ (List.mem_of_getElem? (i := 3) rfl))) (by decide) (backOf (W := 0) (rm1 l Z a0 hw [] v2 (127 : Int32) (132 : Int32) h0 n0 Z0 ) hZ (hw _ (List.mem_of_getElem? (i := 3) rfl)) (hw _ (List.mem_of_getElem? (i := 2) rfl)) (by decide) (by decide)) (g := (mkF m 54 #[.val (.int p1), .val (.int p2), .val (.int v2), .unset] [(.int (132 : Int32)), (.int (127 : Int32)), (.int v2)])) rfl (by rw [hml]; rfl) (argsL := [(.int v2), (.int (127 : Int32)), (.int (132 : Int32))]) (rest := []) (lenOf own_pd0 rfl) rfl (by show 2 * 0 + _ ≤ _; exact Nat.le_of_eq rfl) (hb hby at_54) (fun _ _ => ⟨rfl, e14, (by decide : 0 + 0 + 0 + 0 + 0 ≤ _), (by decide : 0 + 0 + 0 + 0 + 0 ≤ _)⟩)
          dsimp only [Pt.U, Pt.locs, Pt.cells, Pt.slots] at X17 l17 y17 z17 st17 hQ17
          subst l17 y17 z17
          obtain ⟨rfl, N17q, e17⟩ := hQ17
          have N17 := Fr.app N14 N17q
          refine own_go (fun tgt cont => st17 tgt cont) ?_
          show own_Go p e below s (Q0 n0) room_1.cells room_1.slots (T17.setTop (mkF m 57 #[.val (.int p1), .val (.int p2), .val (.int v2), .unset] [(.int (own_in v2 (127 : Int32) (132 : Int32)))]))
          generalize hr18 : (own_in v2 (127 : Int32) (132 : Int32)) = r18
          by_cases hc19 : r18 = 0
          ·
            refine own_go (B := T17.setTop (mkF m 67 #[.val (.int p1), .val (.int p2), .val (.int v2), .unset] [(.int (159 : Int32)), (.int (134 : Int32)), (.int v2)])) (fun tgt cont => ?_) ?_
            · refine XS.ifNo X17.here hx rfl (hb hby at_57) rfl (XT.i0_ne_f hc19) ?_
              refine XS.iloadN X17.here hx rfl (hb hby at_60) rfl ?_
              refine XT.sipushV X17.here hx rfl (134 : Int32) (hb hby at_61) rfl ?_
              refine XT.sipushV X17.here hx rfl (159 : Int32) (hb hby at_64) rfl ?_
              exact cont
            -- pc 67: XmlCharsIsRestrictedCharPinLaw.in
            obtain ⟨_, _, ⟨T20, L20, k20, n20⟩, -, X20, ⟨Lc20, hQ20, l20, y20, z20⟩, st20⟩ := Jvm.LawKit.callS X17 hx (y := (⟨"com/example/attlist/attlist/XmlCharsIsRestrictedCharPinLaw", "in", "(III)Z"⟩ : MethodName)) hown (mvT hZ (hw _ (List.mem_of_getElem? (i := 0) rfl))) (mvT hZ (hw _ (List.mem_of_getElem? (i := 1) rfl))) (mvT hZ (hw _ (List.mem_of_getElem? (i := 2) rfl))) (mvT hZ (hw _ (List.mem_of_getElem? (i := 3) rfl))) (by decide) (backOf (W := 0) (rm1 l Z a0 hw [] v2 (134 : Int32) (159 : Int32) h0 n0 Z0 ) hZ (hw _ (List.mem_of_getElem? (i := 3) rfl)) (hw _ (List.mem_of_getElem? (i := 2) rfl)) (by decide) (by decide)) (g := (mkF m 67 #[.val (.int p1), .val (.int p2), .val (.int v2), .unset] [(.int (159 : Int32)), (.int (134 : Int32)), (.int v2)])) rfl (by rw [hml]; rfl) (argsL := [(.int v2), (.int (134 : Int32)), (.int (159 : Int32))]) (rest := []) (lenOf own_pd0 rfl) rfl (by show 2 * 0 + _ ≤ _; exact Nat.le_of_eq rfl) (hb hby at_67) (fun _ _ => ⟨rfl, e17, (by decide : 0 + 0 + 0 + 0 + 0 + 0 ≤ _), (by decide : 0 + 0 + 0 + 0 + 0 + 0 ≤ _)⟩)
            dsimp only [Pt.U, Pt.locs, Pt.cells, Pt.slots] at X20 l20 y20 z20 st20 hQ20
            subst l20 y20 z20
            obtain ⟨rfl, N20q, e20⟩ := hQ20
            have N20 := Fr.app N17 N20q
            refine own_go (fun tgt cont => st20 tgt cont) ?_
            show own_Go p e below s (Q0 n0) room_1.cells room_1.slots (T20.setTop (mkF m 70 #[.val (.int p1), .val (.int p2), .val (.int v2), .unset] [(.int (own_in v2 (134 : Int32) (159 : Int32)))]))
            generalize hr21 : (own_in v2 (134 : Int32) (159 : Int32)) = r21
            by_cases hc22 : r21 = 0
            ·
              refine own_go (B := T20.setTop (mkF m 78 #[.val (.int p1), .val (.int p2), .val (.int v2), .unset] [(.int (0 : Int32))])) (fun tgt cont => ?_) ?_
              · refine XS.ifYes X20.here hx rfl (pc0 := 70) (pc' := 77) rfl (hb hby at_70) rfl (XT.i0_eq_t hc22) (by decide) (by decide) ?_
                refine XT.iconstV X20.here hx rfl (0 : Int32) (hb hby at_77) rfl ?_
                exact cont
              exact K5 _ _ (0 : Int32) (own_wide X20 (by decide) (by decide)) e20 N20 (by subst hr12 hr15 hr18 hr21; simp only [if_pos hc10, if_pos hc13, if_pos hc16, if_pos hc19, if_pos hc22])
            ·
              refine own_go (B := T20.setTop (mkF m 78 #[.val (.int p1), .val (.int p2), .val (.int v2), .unset] [(.int (1 : Int32))])) (fun tgt cont => ?_) ?_
              · refine XS.ifNo X20.here hx rfl (hb hby at_70) rfl (XT.i0_eq_f hc22) ?_
                refine XT.iconstV X20.here hx rfl (1 : Int32) (hb hby at_73) rfl ?_
                refine XS.goto X20.here hx rfl (pc0 := 74) (pc' := 78) rfl (hb hby at_74) (by decide) (by decide) ?_
                exact cont
              exact K5 _ _ (1 : Int32) (own_wide X20 (by decide) (by decide)) e20 N20 (by subst hr12 hr15 hr18 hr21; simp only [if_pos hc10, if_pos hc13, if_pos hc16, if_pos hc19, if_neg hc22])
          ·
            refine own_go (B := T17.setTop (mkF m 78 #[.val (.int p1), .val (.int p2), .val (.int v2), .unset] [(.int (1 : Int32))])) (fun tgt cont => ?_) ?_
            · refine XS.ifYes X17.here hx rfl (pc0 := 57) (pc' := 73) rfl (hb hby at_57) rfl (XT.i0_ne_t hc19) (by decide) (by decide) ?_
              refine XT.iconstV X17.here hx rfl (1 : Int32) (hb hby at_73) rfl ?_
              refine XS.goto X17.here hx rfl (pc0 := 74) (pc' := 78) rfl (hb hby at_74) (by decide) (by decide) ?_
              exact cont
            exact K5 _ _ (1 : Int32) (own_wide X17 (by decide) (by decide)) e17 N17 (by subst hr12 hr15 hr18; simp only [if_pos hc10, if_pos hc13, if_pos hc16, if_neg hc19])
        ·
          refine own_go (B := T14.setTop (mkF m 78 #[.val (.int p1), .val (.int p2), .val (.int v2), .unset] [(.int (1 : Int32))])) (fun tgt cont => ?_) ?_
          · refine XS.ifYes X14.here hx rfl (pc0 := 45) (pc' := 73) rfl (hb hby at_45) rfl (XT.i0_ne_t hc16) (by decide) (by decide) ?_
            refine XT.iconstV X14.here hx rfl (1 : Int32) (hb hby at_73) rfl ?_
            refine XS.goto X14.here hx rfl (pc0 := 74) (pc' := 78) rfl (hb hby at_74) (by decide) (by decide) ?_
            exact cont
          exact K5 _ _ (1 : Int32) (own_wide X14 (by decide) (by decide)) e14 N14 (by subst hr12 hr15; simp only [if_pos hc10, if_pos hc13, if_neg hc16])
      ·
        refine own_go (B := T11.setTop (mkF m 78 #[.val (.int p1), .val (.int p2), .val (.int v2), .unset] [(.int (1 : Int32))])) (fun tgt cont => ?_) ?_
        · refine XS.ifYes X11.here hx rfl (pc0 := 34) (pc' := 73) rfl (hb hby at_34) rfl (XT.i0_ne_t hc13) (by decide) (by decide) ?_
          refine XT.iconstV X11.here hx rfl (1 : Int32) (hb hby at_73) rfl ?_
          refine XS.goto X11.here hx rfl (pc0 := 74) (pc' := 78) rfl (hb hby at_74) (by decide) (by decide) ?_
          exact cont
        exact K5 _ _ (1 : Int32) (own_wide X11 (by decide) (by decide)) e11 N11 (by subst hr12; simp only [if_pos hc10, if_neg hc13])
    ·
      refine own_go (B := T3.setTop (mkF m 78 #[.val (.int p1), .val (.int p2), .val (.int v2), .unset] [(.int (1 : Int32))])) (fun tgt cont => ?_) ?_
      · refine XS.ifYes X3.here hx rfl (pc0 := 23) (pc' := 73) rfl (hb hby at_23) rfl (XT.i0_ne_t hc10) (by decide) (by decide) ?_
        refine XT.iconstV X3.here hx rfl (1 : Int32) (hb hby at_73) rfl ?_
        refine XS.goto X3.here hx rfl (pc0 := 74) (pc' := 78) rfl (hb hby at_74) (by decide) (by decide) ?_
        exact cont
      exact K5 _ _ (1 : Int32) (own_wide X3 (by decide) (by decide)) e3 N3 (by simp only [if_neg hc10])
  by_cases hc23 : (p2 &&& (1 : Int32)) = 0
  ·
    refine own_go (B := s₁.setTop (mkF m 15 #[.val (.int p1), .val (.int p2), .unset, .unset] [(.int (p1 % (162 : Int32)))])) (fun tgt cont => ?_) ?_
    · refine XS.ifYes X0.here hx rfl (pc0 := 3) (pc' := 10) rfl (hb hby at_3) rfl (XT.i0_eq_t hc23) (by decide) (by decide) ?_
      refine XS.iloadN X0.here hx rfl (hb hby at_10) rfl ?_
      refine XT.sipushV X0.here hx rfl (162 : Int32) (hb hby at_11) rfl ?_
      refine iremM X0 hx rfl (hb hby at_14) rfl (by decide) ?_
      exact cont
    exact K1 (p1 % (162 : Int32)) (by simp only [if_pos hc23])
  ·
    refine own_go (B := s₁.setTop (mkF m 15 #[.val (.int p1), .val (.int p2), .unset, .unset] [(.int p1)])) (fun tgt cont => ?_) ?_
    · refine XS.ifNo X0.here hx rfl (hb hby at_3) rfl (XT.i0_eq_f hc23) ?_
      refine XS.iloadN X0.here hx rfl (hb hby at_6) rfl ?_
      refine XS.goto X0.here hx rfl (pc0 := 7) (pc' := 15) rfl (hb hby at_7) (by decide) (by decide) ?_
      exact cont
    exact K1 p1 (by simp only [if_neg hc23])
set_option maxRecDepth 65536 in
set_option maxHeartbeats 40000000 in
theorem comes_1 {Post : Tables → Env → Array Value → State → Outcome → State → Prop} (hpost : ∀ tb e args s v u, (limb_1_1.after args s (.returned v) u = true ∧ limb_1_2.after args s (.returned v) u = true ∧ True) → FrameEnd s (.returned v) u (Jvm.fieldLocs frame_1_writes args s ++ Jvm.arrayLocs frame_1_arrays args s ++ Jvm.staticLocs frame_1_statics s) 0 0 → Post tb e args s (.returned v) u) :
    ArmFor flags0 classFile x code maxLocals ret World_1 tables_1 room_1 Calls_1 rest_1 Pre_1 Post := by
  intro l hfl _ _ p e ha hc hk s m args below hf hA hF happ hP
  obtain ⟨hcalls, hrest, hpre⟩ := hP
  obtain ⟨-, -, -, hnamed, -, -, -, hat⟩ := (Spec.applies_iff hf).mp happ
  obtain ⟨hg, hn⟩ := and_e (Cond.before_iff.mp (show (Jvm.Cond.and given_1 narrow_1).before args s = true from hpre))
  obtain ⟨g0, gr0⟩ := and_e hg
  obtain ⟨ga0, gr1⟩ := and_e gr0
  obtain ⟨w0, w1, rfl⟩ : ∃ w0 w1 : Value, args = #[w0, w1] := by
    have hs : args.size = 2 := by simpa [Cond.value, given_1] using g0
    obtain ⟨L⟩ := args
    match L, hs with
    | [w0, w1], _ => exact ⟨w0, w1, rfl⟩
  have hw := fun d (hd : d ∈ tables_1) => atoms_spec (ws := Jvm.Cond.code x code maxLocals ret :: tables_1) hat d (List.mem_cons_of_mem _ hd)
  obtain ⟨i0, ei0⟩ := is_v ga0
  obtain rfl : w0 = (.int i0) := Option.some.inj ei0
  obtain ⟨i1, ei1⟩ := is_v gr1
  obtain rfl : w1 = (.int i1) := Option.some.inj ei1
  obtain ⟨n, o, h1, h2, h3, _, L, rfl, ⟨rfl, N⟩, hq⟩ := rm0 l s _ hw tables_1 i0 i1 s.heap s.heap.size (Nat.le_refl _) p e ha hc hk s m _ below hf ((Spec.applies_iff_loose hf).mp happ).1 ⟨rfl, State.Warmed39.refl s, rfl⟩ trivial
  refine ⟨n, _, h1, h2, h3, hpost _ _ _ _ _ _ ⟨Cond.after_iff.mpr rfl, Cond.after_iff.mpr (eq_i res_at (Term.int_eval (1)) rfl), trivial⟩ ⟨hq.1, hq.2.1, (hq.2.2.sift fun y hy => Or.inr (N y hy)).mono (by decide) (by decide)⟩⟩
theorem main_1_1 : Claimed_1_1 := comes_1 fun _ _ _ _ _ _ h hF => ⟨h.1, hF⟩
theorem main_1_2 : Claimed_1_2 := comes_1 fun _ _ _ _ _ _ h hF => ⟨h.2.1, hF⟩
end Jvm.Pilot.@@N@@
namespace Jvm.Pilot.@@N@@
open Jvm Jvm.ClassFile Sem Op Lib Jvm.Free Jvm.Stand Jvm.Pilot.@@N@@.Jvm.D
/-! MADE BY PROGRAM (witnessworld.py) out of the Statement's table words and the real class files: 9 classes; the members and pool entries that the words name. The judged class is class 1, her method 2. -/
namespace start1
open Jvm.ClassFile
def u (s : String) : CpInfo := .utf8 (stringToUtf16 s)
/-- a pool by its gaps: so many unusable entries, then the entry; so many at the end -/
def gap : Nat → List CpInfo → List CpInfo
  | 0, r => r
  | n + 1, r => .unusable :: gap n r
def poolList (es : List (Nat × CpInfo)) (last : Nat) : List CpInfo := es.foldr (fun e r => gap e.1 (e.2 :: r)) (gap last [])
def pool (es : List (Nat × CpInfo)) (last : Nat) : Array CpInfo := ⟨poolList es last⟩
def fileOf (pool : Array CpInfo) (this : Nat) (attrs : Array Attribute := #[]) (ms : Array MethodInfo := #[]) (fl : Nat := 33) (sup : Nat := 0) (ifs : Array Nat := #[]) (fds : Array FieldInfo := #[]) : ClassFile where
  minorVersion := 0
  majorVersion := 65
  constantPool := pool
  accessFlags := fl
  thisClass := this
  superClass := sup
  interfaces := ifs
  fields := fds
  methods := ms
  attributes := attrs
def plain (name : String) (sup : Option ClassId) : Class where
  name := name
  kind := .ordinary
  loader := none
  accessFlags := 33
  super := sup
  interfaces := #[]
  cf := none
  fields := #[]
  methods := #[]
  instanceTypes := #[]
  staticTypes := #[]
  resolved := #[]
  callSites := []
  init := .initialized
  statics := none
  mirror := none

def pool0 : Array CpInfo := pool [(5, u "<init>"), (0, u "()V"), (1, .class_ 10), (1, u "java/lang/Object")] 113

def k0m0 : Method := { name := "<init>", desc := "()V", sig := { parameters := [], returnType := none }, accessFlags := 1, code := none }
/-- java/lang/Object -/
def k0 : Class := { plain "java/lang/Object" none with
  accessFlags := 33
  interfaces := #[]
  cf := some (fileOf pool0 8 #[] #[{ accessFlags := 1, nameIndex := 5, descriptorIndex := 6, attributes := #[] }] 33 0 #[] #[])
  fields := #[]
  methods := #[k0m0]
  instanceTypes := #[]
  staticTypes := #[]
  resolved := Array.replicate 124 none
  statics := none }

def pool1 : Array CpInfo := pool [(2, .class_ 4), (1, u "java/lang/Object"), (0, u "<init>"), (0, u "()V"), (0, .methodref 8 9), (0, .class_ 10), (0, .nameAndType 11 12), (0, u "com/example/attlist/attlist/XmlCharsIsRestrictedCharPinLaw"), (0, u "in"), (0, u "(III)Z"), (0, .methodref 14 15), (0, .class_ 16), (0, .nameAndType 17 18), (0, u "com/example/attlist/attlist/XmlChars"), (0, u "isRestrictedChar"), (0, u "(I)Z"), (3, u "law"), (0, u "(II)Z")] 2

def k1m0 : Method := { name := "<init>", desc := "()V", sig := { parameters := [], returnType := none }, accessFlags := 2, code := none }
def k1c1 : Code := { maxStack := 2, maxLocals := 3, code := method_2_code, exceptionTable := #[], attributes := #[] }
def k1m1 : Method := { name := "in", desc := "(III)Z", sig := { parameters := [.int, .int, .int], returnType := some .boolean }, accessFlags := 10, code := some k1c1 }
def k1c2 : Code := { maxStack := 3, maxLocals := 4, code := code, exceptionTable := #[], attributes := #[] }
def k1m2 : Method := { name := "law", desc := "(II)Z", sig := { parameters := [.int, .int], returnType := some .boolean }, accessFlags := 9, code := some k1c2 }
/-- com/example/attlist/attlist/XmlCharsIsRestrictedCharPinLaw -/
def k1 : Class := { plain "com/example/attlist/attlist/XmlCharsIsRestrictedCharPinLaw" (some 0) with
  accessFlags := 49
  interfaces := #[]
  cf := some (fileOf pool1 8 #[] #[{ accessFlags := 2, nameIndex := 5, descriptorIndex := 6, attributes := #[] }, { accessFlags := 10, nameIndex := 11, descriptorIndex := 12, attributes := #[] }, { accessFlags := 9, nameIndex := 22, descriptorIndex := 23, attributes := #[] }] 49 2 #[] #[])
  fields := #[]
  methods := #[k1m0, k1m1, k1m2]
  instanceTypes := #[]
  staticTypes := #[]
  resolved := Array.replicate 26 none
  statics := none }

def pool2 : Array CpInfo := pool [(2, .class_ 4), (1, u "java/lang/Object"), (0, u "<init>"), (0, u "()V"), (5, .class_ 13), (0, u "com/example/attlist/attlist/XmlChars"), (8, u "PUBID_PUNCTUATION"), (0, u "Ljava/lang/String;"), (4, u "(I)Z"), (5, u "isRestrictedChar")] 3

def k2m0 : Method := { name := "<init>", desc := "()V", sig := { parameters := [], returnType := none }, accessFlags := 2, code := none }
def k2c1 : Code := { maxStack := 2, maxLocals := 2, code := prog_10_method_5_code, exceptionTable := #[], attributes := #[] }
def k2m1 : Method := { name := "isRestrictedChar", desc := "(I)Z", sig := { parameters := [.int], returnType := some .boolean }, accessFlags := 9, code := some k2c1 }
/-- com/example/attlist/attlist/XmlChars -/
def k2 : Class := { plain "com/example/attlist/attlist/XmlChars" (some 0) with
  accessFlags := 49
  interfaces := #[]
  cf := some (fileOf pool2 12 #[] #[{ accessFlags := 2, nameIndex := 5, descriptorIndex := 6, attributes := #[] }, { accessFlags := 9, nameIndex := 34, descriptorIndex := 28, attributes := #[] }] 49 2 #[] #[{ accessFlags := 26, nameIndex := 22, descriptorIndex := 23, attributes := #[] }])
  fields := #[{ name := "PUBID_PUNCTUATION", type := (.object "java/lang/String"), accessFlags := 26, slot := 0, constantValue := 0 }]
  methods := #[k2m0, k2m1]
  instanceTypes := #[]
  staticTypes := #[(.object "java/lang/String")]
  resolved := Array.replicate 38 none
  statics := none }

def pool3 : Array CpInfo := pool [(1, u "java/lang/Cloneable"), (0, .class_ 1), (0, u "java/lang/Object"), (0, .class_ 3)] 3

/-- java/lang/Cloneable -/
def k3 : Class := { plain "java/lang/Cloneable" (some 0) with
  accessFlags := 1537
  interfaces := #[]
  cf := some (fileOf pool3 2 #[] #[] 1537 4 #[] #[])
  fields := #[]
  methods := #[]
  instanceTypes := #[]
  staticTypes := #[]
  resolved := Array.replicate 8 none
  statics := none }

def pool4 : Array CpInfo := pool [(1, u "java/io/Serializable"), (0, .class_ 1), (0, u "java/lang/Object"), (0, .class_ 3)] 3

/-- java/io/Serializable -/
def k4 : Class := { plain "java/io/Serializable" (some 0) with
  accessFlags := 1537
  interfaces := #[]
  cf := some (fileOf pool4 2 #[] #[] 1537 4 #[] #[])
  fields := #[]
  methods := #[]
  instanceTypes := #[]
  staticTypes := #[]
  resolved := Array.replicate 8 none
  statics := none }

/-- the primitive byte -/
def k5 : Class := { plain "byte" none with kind := .primitive 'B', accessFlags := 0x411 }
/-- [B -/
def k6 : Class := { plain "[B" (some 0) with kind := .array 5 .byte, interfaces := #[3, 4], accessFlags := 1041 }

/-- the primitive int -/
def k7 : Class := { plain "int" none with kind := .primitive 'I', accessFlags := 0x411 }
/-- [I -/
def k8 : Class := { plain "[I" (some 0) with kind := .array 7 .int, interfaces := #[3, 4], accessFlags := 1041 }

def heap : Heap := #[]
def classes : Array Class := #[k0, k1, k2, k3, k4, k5, k6, k7, k8]
def interned : List (Array UInt16 × Addr) := []
def slotsUsed : Nat := 0
def theMethod : MethodId := ⟨1, 2⟩
def args0 : Array Value := #[.int 5, .int 300]
def aboutOver (below : List Frame) : State where
  vm := { classes := classes, interned := interned.toArray }
  heap := heap
  slotsUsed := slotsUsed
  threads := #[{ frames := .invoking theMethod args0 :: below }]
def below0 : List Frame := [.native { method := ⟨0, 0⟩, args := #[] }]
def about1 : State := aboutOver below0
def p0 : Program := .bare "" "" ""
def e0 : Env := launch0.env 0 0 0
theorem w_frames : about1.frames = Frame.invoking theMethod args0 :: below0 := rfl
set_option maxRecDepth 65536 in
theorem w_args : argsFit about1.vm theMethod args0 = true := by decide +kernel
set_option maxRecDepth 65536 in
theorem w_heap : heapFits about1 = true := by decide +kernel
set_option maxRecDepth 65536 in
theorem w_runnable : about1.curStatus? = some .runnable := by decide +kernel
set_option maxRecDepth 65536 in
theorem w_alone : about1.alone = true := by decide +kernel
set_option maxRecDepth 65536 in
theorem w_named : about1.methodNamed? x = some theMethod := by decide +kernel
set_option maxRecDepth 65536 in
theorem w_hears : about1.hears theMethod below0 = true := by decide +kernel
set_option maxRecDepth 65536 in
theorem w_ripe : about1.ripe theMethod args0 below0 = true := by decide +kernel
theorem w_running : about1.status = .running := rfl
set_option maxRecDepth 65536 in
theorem w_room : about1.hasRoom e0.platform room_1 = true :=
  launch0.hasRoom_least _ room_1 (by decide +kernel) (by decide +kernel) (by decide +kernel) (by decide +kernel) (by decide +kernel) (by decide +kernel)
theorem allAtoms_all (ts : List Jvm.Cond) (a : Array Jvm.Value) (st : Jvm.State) : (allAtoms ts).before a st = ts.all (fun c => c.before a st) := by
  induction ts with
  | nil => rfl
  | cons c t ih =>
    show (Jvm.Cond.and c (allAtoms t)).before a st = _
    rw [Jvm.Cond.before_and, ih, List.all_cons]
def words1 : List Jvm.Cond := Jvm.Cond.code x code maxLocals ret :: tables_1
/-- a 'code' word, met by the world's own term for the bytes: nothing is compared byte by byte -/
theorem code_word {y : MethodName} {bytes : ByteArray} {mx : Nat} {rt : Option FieldType} {a : Array Value} {s : State} {m : MethodId} {meth : Method} {c : Code} (h1 : s.methodNamed? y = some m) (h2 : s.vm.method? m = some meth) (h3 : meth.code = some c) (h4 : c.code = bytes)
    (h5 : (c.maxLocals == mx && c.exceptionTable.isEmpty && decide (c.maxStack ≤ mostOperands) && decide (meth.sig.returnType = rt) && !meth.locks && decide (parseMethodDescriptor y.desc = some meth.sig)) = true) : (Jvm.Cond.code y bytes mx rt).before a s = true := by
  simp only [Bool.and_eq_true, beq_iff_eq, Bool.not_eq_true', decide_eq_true_eq] at h5
  obtain ⟨⟨⟨⟨⟨g1, g2⟩, g3⟩, g4⟩, g5⟩, g6⟩ := h5
  simp [Cond.before, Cond.holds, Cond.value, h1, h2, h3, h4, g1, g2, g3, g4, g5, g6]
def isCode : Jvm.Cond → Bool
  | .code _ _ _ _ => true
  | _ => false
theorem all_split {L : List Jvm.Cond} {P : Jvm.Cond → Bool} (h1 : L.all (fun c => isCode c || P c) = true) (h2 : ∀ c ∈ L.filter isCode, P c = true) : L.all P = true := by
  refine List.all_eq_true.mpr fun c hc => ?_
  have h := List.all_eq_true.mp h1 c hc
  rcases Bool.eq_false_or_eq_true (isCode c) with hi | hi
  · exact h2 c (List.mem_filter.mpr ⟨hc, hi⟩)
  · simpa [hi] using h
set_option maxRecDepth 65536 in
theorem w_c0 : (Jvm.Cond.code x code maxLocals ret).before args0 about1 = true := code_word (m := ⟨1, 2⟩) (meth := k1m2) (c := k1c2) (by decide +kernel) rfl rfl rfl (by decide +kernel)
set_option maxRecDepth 65536 in
theorem w_c1 : (Jvm.Cond.code ({ cls := "com/example/attlist/attlist/XmlCharsIsRestrictedCharPinLaw", name := "in", desc := "(III)Z" } : Jvm.MethodName) method_2_code (3 : Nat) (Option.some Jvm.ClassFile.FieldType.boolean)).before args0 about1 = true := code_word (m := ⟨1, 1⟩) (meth := k1m1) (c := k1c1) (by decide +kernel) rfl rfl rfl (by decide +kernel)
set_option maxRecDepth 65536 in
theorem w_c2 : (Jvm.Cond.code ({ cls := "com/example/attlist/attlist/XmlChars", name := "isRestrictedChar", desc := "(I)Z" } : Jvm.MethodName) prog_10_method_5_code (2 : Nat) (Option.some Jvm.ClassFile.FieldType.boolean)).before args0 about1 = true := code_word (m := ⟨2, 1⟩) (meth := k2m1) (c := k2c1) (by decide +kernel) rfl rfl rfl (by decide +kernel)
def codes1 : List Jvm.Cond := [Jvm.Cond.code x code maxLocals ret, Jvm.Cond.code ({ cls := "com/example/attlist/attlist/XmlCharsIsRestrictedCharPinLaw", name := "in", desc := "(III)Z" } : Jvm.MethodName) method_2_code (3 : Nat) (Option.some Jvm.ClassFile.FieldType.boolean), Jvm.Cond.code ({ cls := "com/example/attlist/attlist/XmlChars", name := "isRestrictedChar", desc := "(I)Z" } : Jvm.MethodName) prog_10_method_5_code (2 : Nat) (Option.some Jvm.ClassFile.FieldType.boolean)]
set_option maxRecDepth 65536 in
theorem codes_eq : words1.filter isCode = codes1 := rfl
theorem w_codes : ∀ c ∈ words1.filter isCode, c.before args0 about1 = true := by
  rw [codes_eq]
  intro c hc
  simp only [codes1, List.mem_cons, List.not_mem_nil, or_false] at hc
  rcases hc with rfl | rfl | rfl
  · exact w_c0
  · exact w_c1
  · exact w_c2
set_option maxRecDepth 65536 in
theorem w_t1 : words1.all (fun c => isCode c || c.before args0 about1) = true := by decide +kernel
theorem w_tables : (allAtoms (Jvm.Cond.code x code maxLocals ret :: tables_1)).before args0 about1 = true := by
  rw [allAtoms_all]
  show words1.all (fun c => c.before args0 about1) = true
  refine all_split ?_ w_codes
  rw [w_t1]
set_option maxRecDepth 65536 in
theorem w_case : (Jvm.Cond.and given_1 narrow_1).before args0 about1 = true := by decide +kernel
theorem w_applies : (headSpec (Jvm.Cond.code x code maxLocals ret :: tables_1) room_1).applies x e0.platform about1 = true :=
  (Spec.applies_iff w_frames).mpr ⟨w_running, w_runnable, w_alone, w_named, w_hears, w_ripe, w_room, w_tables⟩
theorem atStart : AtStart classFile x code maxLocals ret World_1 tables_1 room_1 Calls_1 rest_1 Pre_1 launch0 p0 e0 about1 theMethod args0 below0 :=
  ⟨lists_1, trivial, launch0.admits_env _ _ _, launch0.least_env, fairChoices_fair.cas, fairChoices_fair.clock, w_frames, w_args, w_heap, w_applies, trivial, trivial, w_case⟩
end start1
theorem witness_1 : WitnessClaimed_1 := ⟨start1.p0, start1.e0, start1.about1, start1.theMethod, start1.args0, start1.below0, start1.atStart⟩
end Jvm.Pilot.@@N@@
