import JvmDerived
import JvmDerived.Pilot.@@N@@Statement
import JvmDerived.Pilot.@@N@@Code
set_option linter.unusedVariables false
set_option linter.unusedSimpArgs false
namespace Jvm.RoadKit
open Sem ClassFile Op Lib Jvm.Stand Jvm.Free Jvm.LawKit
section New
variable {p : Program} {l : Launch} {e : Env} {R : Room} {s : State} {m : MethodId} {args : Array Value} {below : List Frame} {meth : Method} {c : Code} {T : State} {locs : List Loc} {cells slots : Nat}
theorem retI (X : Stand p l e R s m args below meth c T locs cells slots) (hx : p.tables.exec = Jvm.exec) {pc : Nat} {Ls : Array Slot} {z : Int32} {rest : List Value} (hret : meth.sig.returnType = some .int) (hd : decode c.code pc = .ok (.ireturn, 1)) {fs : List Frame}
    (hl : ∀ (f : JFrame) (acts : List Action), f.method = m → f.locked = none → f.entered = [] → (doReturn e (T.setTop f) acts (some (.int z))).1 = T.setFrames fs) : Steps p.tables e below (T.setTop (mkF m pc Ls (.int z :: rest))) (T.setFrames fs) := by
  have hm' : T.vm.method? m = some meth := X.method'
  have hn : narrow .int (.int z) = .int z := rfl
  show Steps p.tables e below (T.setTop { method := m, pc := pc, locals := Ls, stack := _ :: rest, locked := none }) _
  jvm_step X.here [X.here.top, hx, hd, hm', hret, hn]
  first | (intro acts; rw [hl _ acts rfl rfl rfl]) | rw [hl _ _ rfl rfl rfl]
  exact Steps.refl _
end New
end Jvm.RoadKit
namespace Jvm.Pilot.@@N@@
open Jvm Jvm.ClassFile Sem Op Lib Jvm.Free Jvm.Stand Jvm.LawKit Jvm.RoadKit Bundle Jvm.Pilot.@@N@@.Jvm.D
/-! my own layer: all goals of a walk have one shape -/
section Own
variable {p : Program} {l : Launch} {e : Env} {R : Room} {s : State} {m : MethodId} {args : Array Value} {below : List Frame} {meth : Method} {c : Code} {T : State} {locs : List Loc} {cells slots : Nat} {Q : Option Value → Heap → List Loc → Prop} {nc ns : Nat} {A B : State}
/-- from A the method comes to its end, with Q of what it returns, of the heap and of the places written -/
def own_Go (p : Program) (e : Env) (below : List Frame) (s : State) (Q : Option Value → Heap → List Loc → Prop) (nc ns : Nat) (A : State) : Prop :=
  ∃ s₂ o, Steps p.tables e below A s₂ ∧ s₂.status = .running ∧ Ended s₂ below o ∧ ∃ v L, o = .returned v ∧ Q v s₂.heap L ∧ FrameEnd s o s₂ L nc ns
theorem own_go (k : ∀ t, Steps p.tables e below B t → Steps p.tables e below A t) (h : own_Go p e below s Q nc ns B) : own_Go p e below s Q nc ns A := by
  obtain ⟨t, o, h1, h2⟩ := h
  exact ⟨t, o, k t h1, h2⟩
theorem own_end (X : Stand p l e R s m args below meth c T locs cells slots) {v : Option Value} (hv : meth.sig.returnType = none → v = none) (hlk : meth.locks = false) (hq : Q v T.heap locs) (hc : cells ≤ nc) (hs : slots ≤ ns)
    (hst : ∀ fs, (∀ (f : JFrame) (acts : List Action), f.method = m → f.locked = none → f.entered = [] → (doReturn e (T.setTop f) acts v).1 = T.setFrames fs) → Steps p.tables e below A (T.setFrames fs)) : own_Go p e below s Q nc ns A := by
  obtain ⟨fs, hr, hrun, hended, hW, hsame⟩ := X.leave (v := v) hv hlk
  exact ⟨_, _, hst fs hr, hrun, hended, v, locs, rfl, hq, ⟨_, rfl⟩, hW, hsame.mono hc hs⟩
theorem own_wide {cells' slots' : Nat} (X : Stand p l e R s m args below meth c T locs cells slots) (hc : cells ≤ cells') (hs : slots ≤ slots') : Stand p l e R s m args below meth c T locs cells' slots' :=
  { X with same := X.same.mono hc hs }
theorem own_lrem {tb : Tables} [Ours tb] {target : State} {g : JFrame} (h : At T m c below) (hx : tb.exec = Jvm.exec) (hg : g.method = m) {x y : Int64} {rest : List Value} (hd : decode c.code g.pc = .ok (.lrem, 1)) (hs : g.stack = .long y :: .long x :: rest) (hy : y ≠ 0)
    (hr : Steps tb e below (T.setTop { g with pc := g.pc + 1, stack := .long (x % y) :: rest }) target) : Steps tb e below (T.setTop g) target :=
  XS.lrem h hx hg hd hs hy (by rw [lrem_mod]; exact hr)
end Own
section Own2
variable {Z s : State} {a0 args : Array Value} {h : Heap} {a b : Addr} {C : String} {c : Cell} {ty : FieldType}
theorem own_selP {y : MethodName} {n : Nat} (hZ : Z.Warmed39 s.vm) (wi : (Jvm.Cond.instantiable y.cls n).before a0 Z = true) (w2 : (Jvm.Cond.instanceMethod y).before a0 Z = true) (w3 : (Jvm.Cond.privateMethod y).before a0 Z = true)
    (hy : y.cls ≠ "java/lang/invoke/MethodHandle" ∧ y.cls ≠ "java/lang/invoke/VarHandle" := by decide) : (Jvm.Cond.selects y.cls y y).before args s = true := by
  have wi' : (Jvm.Cond.instantiable y.cls n).before args s = true := mvT hZ wi
  obtain ⟨c, k, h1, h2, -, h4, -⟩ := Cond.instantiable_spec wi'
  have h5 : k.isInterface = false := by
    cases hk : k.isInterface
    · rfl
    · rw [hk] at h4; simp at h4
  exact selects_self_of_private h1 h2 h5 (Cond.privateMethod_at (mvP hZ w3 (args := #[]))) (mvT hZ w2) hy
theorem own_neA {n : Nat} (F : Exa Z h a C) (wi : (Jvm.Cond.instantiable C n).before a0 Z = true) (G : ∃ c, Arr Z h b c ty) : a ≠ b := by
  obtain ⟨c, G⟩ := G
  exact ne_arr F wi G
end Own2
def own_cp (p1 : Int32) : Int32 := if (p1 &&& (3 : Int32)) = 0 then (10 : Int32) else if (p1 &&& (3 : Int32)) = (1 : Int32) then (13 : Int32) else p1
def Q_rm1 (Z : State) (p1 : Int32) (h0 : Heap) (n0 : Nat) (v : Option Value) (h : Heap) (L : List Loc) : Prop := v = some (.int (own_cp p1)) ∧ Fr n0 L ∧ h = h0
theorem own_pn0 : plainName "com/example/pandect/pandect/text/TextPositionAdvancePinLaw" = true := by first | (simp [plainName, overriddenIn]; done) | decide +kernel
theorem d1_0 : decode method_2_code 0 = .ok (.iload_n 0, 1) := by decide +kernel
theorem d1_1 : decode method_2_code 1 = .ok (.iconst 3, 1) := by decide +kernel
theorem d1_2 : decode method_2_code 2 = .ok (.iand, 1) := by decide +kernel
theorem d1_3 : decode method_2_code 3 = .ok (.istore_n 1, 1) := by decide +kernel
theorem d1_4 : decode method_2_code 4 = .ok (.iload_n 1, 1) := by decide +kernel
theorem d1_5 : decode method_2_code 5 = .ok (.ifCond .ne 6, 3) := by decide +kernel
theorem d1_8 : decode method_2_code 8 = .ok (.bipush 10, 2) := by decide +kernel
theorem d1_10 : decode method_2_code 10 = .ok (.ireturn, 1) := by decide +kernel
theorem d1_11 : decode method_2_code 11 = .ok (.iload_n 1, 1) := by decide +kernel
theorem d1_12 : decode method_2_code 12 = .ok (.iconst 1, 1) := by decide +kernel
theorem d1_13 : decode method_2_code 13 = .ok (.if_icmp .ne 6, 3) := by decide +kernel
theorem d1_16 : decode method_2_code 16 = .ok (.bipush 13, 2) := by decide +kernel
theorem d1_18 : decode method_2_code 18 = .ok (.ireturn, 1) := by decide +kernel
theorem d1_19 : decode method_2_code 19 = .ok (.iload_n 0, 1) := by decide +kernel
theorem d1_20 : decode method_2_code 20 = .ok (.ireturn, 1) := by decide +kernel
set_option maxRecDepth 65536 in
set_option maxHeartbeats 40000000 in
theorem rm1 (l : Launch) (Z : State) (a0 : Array Value) (hw : ∀ d ∈ tables_1, d.before a0 Z = true) (ws : List Jvm.Cond) (p1 : Int32) (h0 : Heap) (n0 : Nat) (Z0 : n0 ≤ h0.size)  :
    MetFree l (⟨"com/example/pandect/pandect/text/TextPositionAdvancePinLaw", "cp", "(I)I"⟩ : MethodName) (head1 (Jvm.Cond.code (⟨"com/example/pandect/pandect/text/TextPositionAdvancePinLaw", "cp", "(I)I"⟩ : MethodName) method_2_code 2 (some .int) :: ws) ({ frames := 0, cells := 0, slots := 0, locals := 0 } : Room)) (fun aa U => aa = #[(.int p1)] ∧ Z.Warmed39 U.vm ∧ U.heap = h0) (fun _ _ _ _ _ => True) (fun _ U o U' => ∃ v L, o = .returned v ∧ Q_rm1 Z p1 h0 n0 v U'.heap L ∧ FrameEnd U o U' L ({ frames := 0, cells := 0, slots := 0, locals := 0 } : Room).cells ({ frames := 0, cells := 0, slots := 0, locals := 0 } : Room).slots) := by
  refine MetFree.of_bodySF (plainFor_of_name own_pn0) hisR ?_
  intro p e s m args below meth c s₁ Bd hml0 hP hK
  obtain ⟨rfl, hZ, hh⟩ := hP
  have hx := Bd.exec
  have hby := Bd.bytes
  have hml : c.maxLocals = 2 := hml0
  have hlk : meth.locks = false := BodyLoose.notSynchronized Bd
  have hown : s.vm.findClass "com/example/pandect/pandect/text/TextPositionAdvancePinLaw" = some m.cls := findClass_of_methodNamed Bd.named
  have hnm := (name_of_methodNamed Bd.named Bd.method).1
  have X0 : Stand p l e ({ frames := 0, cells := 0, slots := 0, locals := 0 } : Room) s m #[(.int p1)] below meth c s₁ [] 0 0 := Stand.of_body Bd
  have e0 : s₁.heap = h0 := by rw [← hh, Bd.state]; rfl
  have N0 := Fr.nil n0
  show own_Go p e below s (Q_rm1 Z p1 h0 n0) 0 0 (s₁.setTop (entryFrame m #[(.int p1)] 2))
  refine own_go (B := s₁.setTop (mkF m 0 #[.val (.int p1), .unset] [])) (fun tgt cont => (XT.entry rfl).trans cont) ?_
  refine own_go (B := s₁.setTop (mkF m 5 #[.val (.int p1), .val (.int (p1 &&& (3 : Int32)))] [(.int (p1 &&& (3 : Int32)))])) (fun tgt cont => ?_) ?_
  · refine XS.iloadN X0.here hx rfl (hb hby d1_0) rfl ?_
    refine XT.iconstV X0.here hx rfl (3 : Int32) (hb hby d1_1) rfl ?_
    refine XS.iand X0.here hx rfl (hb hby d1_2) rfl ?_
    refine XS.istoreN X0.here hx rfl (hb hby d1_3) rfl (l' := #[.val (.int p1), .val (.int (p1 &&& (3 : Int32)))]) rfl ?_
    refine XS.iloadN X0.here hx rfl (hb hby d1_4) rfl ?_
    exact cont
  by_cases hc1 : (p1 &&& (3 : Int32)) = 0
  ·
    refine own_go (B := s₁.setTop (mkF m 10 #[.val (.int p1), .val (.int (p1 &&& (3 : Int32)))] [(.int (10 : Int32))])) (fun tgt cont => ?_) ?_
    · refine XS.ifNo X0.here hx rfl (hb hby d1_5) rfl (XT.i0_ne_f hc1) ?_
      refine XT.bipushV X0.here hx rfl (10 : Int32) (hb hby d1_8) rfl ?_
      exact cont
    refine own_end X0 (v := some (.int (10 : Int32))) (fun h => by rw [Bd.returns] at h; cases h) hlk ?_ (by decide) (by decide) (fun fs hl => retI X0 hx Bd.returns (hb hby d1_10) hl)
    exact ⟨(by unfold own_cp; first | exact rfl | (simp only [if_pos hc1]; first | done | exact rfl)), N0, e0⟩
  ·
    refine own_go (B := s₁.setTop (mkF m 13 #[.val (.int p1), .val (.int (p1 &&& (3 : Int32)))] [(.int (1 : Int32)), (.int (p1 &&& (3 : Int32)))])) (fun tgt cont => ?_) ?_
    · refine XS.ifYes X0.here hx rfl (pc0 := 5) (pc' := 11) rfl (hb hby d1_5) rfl (XT.i0_ne_t hc1) (by decide) (by decide) ?_
      refine XS.iloadN X0.here hx rfl (hb hby d1_11) rfl ?_
      refine XT.iconstV X0.here hx rfl (1 : Int32) (hb hby d1_12) rfl ?_
      exact cont
    by_cases hc2 : (p1 &&& (3 : Int32)) = (1 : Int32)
    ·
      refine own_go (B := s₁.setTop (mkF m 18 #[.val (.int p1), .val (.int (p1 &&& (3 : Int32)))] [(.int (13 : Int32))])) (fun tgt cont => ?_) ?_
      · refine XS.icmpNo X0.here hx rfl (hb hby d1_13) rfl (XT.ii_ne_f hc2) ?_
        refine XT.bipushV X0.here hx rfl (13 : Int32) (hb hby d1_16) rfl ?_
        exact cont
      refine own_end X0 (v := some (.int (13 : Int32))) (fun h => by rw [Bd.returns] at h; cases h) hlk ?_ (by decide) (by decide) (fun fs hl => retI X0 hx Bd.returns (hb hby d1_18) hl)
      exact ⟨(by unfold own_cp; first | exact rfl | (simp only [if_neg hc1, if_pos hc2]; first | done | exact rfl)), N0, e0⟩
    ·
      refine own_go (B := s₁.setTop (mkF m 20 #[.val (.int p1), .val (.int (p1 &&& (3 : Int32)))] [(.int p1)])) (fun tgt cont => ?_) ?_
      · refine XS.icmpYes X0.here hx rfl (pc0 := 13) (pc' := 19) rfl (hb hby d1_13) rfl (XT.ii_ne_t hc2) (by decide) (by decide) ?_
        refine XS.iloadN X0.here hx rfl (hb hby d1_19) rfl ?_
        exact cont
      refine own_end X0 (v := some (.int p1)) (fun h => by rw [Bd.returns] at h; cases h) hlk ?_ (by decide) (by decide) (fun fs hl => retI X0 hx Bd.returns (hb hby d1_20) hl)
      exact ⟨(by unfold own_cp; first | exact rfl | (simp only [if_neg hc1, if_neg hc2]; first | done | exact rfl)), N0, e0⟩
def own_eol (p1 : Int32) : Int32 := if p1 = (10 : Int32) then (1 : Int32) else if p1 = (13 : Int32) then (1 : Int32) else (0 : Int32)
def Q_rm7 (Z : State) (p1 : Int32) (h0 : Heap) (n0 : Nat) (v : Option Value) (h : Heap) (L : List Loc) : Prop := v = some (.int (own_eol p1)) ∧ Fr n0 L ∧ h = h0
theorem d7_0 : decode method_3_code 0 = .ok (.iload_n 0, 1) := by decide +kernel
theorem d7_1 : decode method_3_code 1 = .ok (.bipush 10, 2) := by decide +kernel
theorem d7_3 : decode method_3_code 3 = .ok (.if_icmp .eq 9, 3) := by decide +kernel
theorem d7_6 : decode method_3_code 6 = .ok (.iload_n 0, 1) := by decide +kernel
theorem d7_7 : decode method_3_code 7 = .ok (.bipush 13, 2) := by decide +kernel
theorem d7_9 : decode method_3_code 9 = .ok (.if_icmp .ne 7, 3) := by decide +kernel
theorem d7_12 : decode method_3_code 12 = .ok (.iconst 1, 1) := by decide +kernel
theorem d7_13 : decode method_3_code 13 = .ok (.goto 4, 3) := by decide +kernel
theorem d7_16 : decode method_3_code 16 = .ok (.iconst 0, 1) := by decide +kernel
theorem d7_17 : decode method_3_code 17 = .ok (.ireturn, 1) := by decide +kernel
set_option maxRecDepth 65536 in
set_option maxHeartbeats 40000000 in
theorem rm7 (l : Launch) (Z : State) (a0 : Array Value) (hw : ∀ d ∈ tables_1, d.before a0 Z = true) (ws : List Jvm.Cond) (p1 : Int32) (h0 : Heap) (n0 : Nat) (Z0 : n0 ≤ h0.size)  :
    MetFree l (⟨"com/example/pandect/pandect/text/TextPositionAdvancePinLaw", "eol", "(I)Z"⟩ : MethodName) (head1 (Jvm.Cond.code (⟨"com/example/pandect/pandect/text/TextPositionAdvancePinLaw", "eol", "(I)Z"⟩ : MethodName) method_3_code 1 (some .boolean) :: ws) ({ frames := 0, cells := 0, slots := 0, locals := 0 } : Room)) (fun aa U => aa = #[(.int p1)] ∧ Z.Warmed39 U.vm ∧ U.heap = h0) (fun _ _ _ _ _ => True) (fun _ U o U' => ∃ v L, o = .returned v ∧ Q_rm7 Z p1 h0 n0 v U'.heap L ∧ FrameEnd U o U' L ({ frames := 0, cells := 0, slots := 0, locals := 0 } : Room).cells ({ frames := 0, cells := 0, slots := 0, locals := 0 } : Room).slots) := by
  refine MetFree.of_bodySF (plainFor_of_name own_pn0) hisR ?_
  intro p e s m args below meth c s₁ Bd hml0 hP hK
  obtain ⟨rfl, hZ, hh⟩ := hP
  have hx := Bd.exec
  have hby := Bd.bytes
  have hml : c.maxLocals = 1 := hml0
  have hlk : meth.locks = false := BodyLoose.notSynchronized Bd
  have hown : s.vm.findClass "com/example/pandect/pandect/text/TextPositionAdvancePinLaw" = some m.cls := findClass_of_methodNamed Bd.named
  have hnm := (name_of_methodNamed Bd.named Bd.method).1
  have X0 : Stand p l e ({ frames := 0, cells := 0, slots := 0, locals := 0 } : Room) s m #[(.int p1)] below meth c s₁ [] 0 0 := Stand.of_body Bd
  have e0 : s₁.heap = h0 := by rw [← hh, Bd.state]; rfl
  have N0 := Fr.nil n0
  show own_Go p e below s (Q_rm7 Z p1 h0 n0) 0 0 (s₁.setTop (entryFrame m #[(.int p1)] 1))
  refine own_go (B := s₁.setTop (mkF m 0 #[.val (.int p1)] [])) (fun tgt cont => (XT.entry rfl).trans cont) ?_
  refine own_go (B := s₁.setTop (mkF m 3 #[.val (.int p1)] [(.int (10 : Int32)), (.int p1)])) (fun tgt cont => ?_) ?_
  · refine XS.iloadN X0.here hx rfl (hb hby d7_0) rfl ?_
    refine XT.bipushV X0.here hx rfl (10 : Int32) (hb hby d7_1) rfl ?_
    exact cont
  by_cases hc1 : p1 = (10 : Int32)
  ·
    refine own_go (B := s₁.setTop (mkF m 17 #[.val (.int p1)] [(.int (1 : Int32))])) (fun tgt cont => ?_) ?_
    · refine XS.icmpYes X0.here hx rfl (pc0 := 3) (pc' := 12) rfl (hb hby d7_3) rfl (XT.ii_eq_t hc1) (by decide) (by decide) ?_
      refine XT.iconstV X0.here hx rfl (1 : Int32) (hb hby d7_12) rfl ?_
      refine XS.goto X0.here hx rfl (pc0 := 13) (pc' := 17) rfl (hb hby d7_13) (by decide) (by decide) ?_
      exact cont
    refine own_end X0 (v := some (.int (1 : Int32))) (fun h => by rw [Bd.returns] at h; cases h) hlk ?_ (by decide) (by decide) (fun fs hl => retN X0 hx (t := .boolean) Bd.returns (by simp) (hb hby d7_17) hl)
    exact ⟨(by unfold own_eol; first | exact rfl | (simp only [if_pos hc1]; first | done | exact rfl)), N0, e0⟩
  ·
    refine own_go (B := s₁.setTop (mkF m 9 #[.val (.int p1)] [(.int (13 : Int32)), (.int p1)])) (fun tgt cont => ?_) ?_
    · refine XS.icmpNo X0.here hx rfl (hb hby d7_3) rfl (XT.ii_eq_f hc1) ?_
      refine XS.iloadN X0.here hx rfl (hb hby d7_6) rfl ?_
      refine XT.bipushV X0.here hx rfl (13 : Int32) (hb hby d7_7) rfl ?_
      exact cont
    by_cases hc2 : p1 = (13 : Int32)
    ·
      refine own_go (B := s₁.setTop (mkF m 17 #[.val (.int p1)] [(.int (1 : Int32))])) (fun tgt cont => ?_) ?_
      · refine XS.icmpNo X0.here hx rfl (hb hby d7_9) rfl (XT.ii_ne_f hc2) ?_
        refine XT.iconstV X0.here hx rfl (1 : Int32) (hb hby d7_12) rfl ?_
        refine XS.goto X0.here hx rfl (pc0 := 13) (pc' := 17) rfl (hb hby d7_13) (by decide) (by decide) ?_
        exact cont
      refine own_end X0 (v := some (.int (1 : Int32))) (fun h => by rw [Bd.returns] at h; cases h) hlk ?_ (by decide) (by decide) (fun fs hl => retN X0 hx (t := .boolean) Bd.returns (by simp) (hb hby d7_17) hl)
      exact ⟨(by unfold own_eol; first | exact rfl | (simp only [if_neg hc1, if_pos hc2]; first | done | exact rfl)), N0, e0⟩
    ·
      refine own_go (B := s₁.setTop (mkF m 17 #[.val (.int p1)] [(.int (0 : Int32))])) (fun tgt cont => ?_) ?_
      · refine XS.icmpYes X0.here hx rfl (pc0 := 9) (pc' := 16) rfl (hb hby d7_9) rfl (XT.ii_ne_t hc2) (by decide) (by decide) ?_
        refine XT.iconstV X0.here hx rfl (0 : Int32) (hb hby d7_16) rfl ?_
        exact cont
      refine own_end X0 (v := some (.int (0 : Int32))) (fun h => by rw [Bd.returns] at h; cases h) hlk ?_ (by decide) (by decide) (fun fs hl => retN X0 hx (t := .boolean) Bd.returns (by simp) (hb hby d7_17) hl)
      exact ⟨(by unfold own_eol; first | exact rfl | (simp only [if_neg hc1, if_neg hc2]; first | done | exact rfl)), N0, e0⟩
def own_brk (p1 : Int32) (p2 : Int32) : Int64 := if p2 = (13 : Int32) then (1 : Int64) else if p2 = (10 : Int32) then if p1 = (13 : Int32) then (0 : Int64) else (1 : Int64) else (0 : Int64)
def Q_rm8 (Z : State) (p1 : Int32) (p2 : Int32) (h0 : Heap) (n0 : Nat) (v : Option Value) (h : Heap) (L : List Loc) : Prop := v = some (.long (own_brk p1 p2)) ∧ Fr n0 L ∧ h = h0
theorem d8_0 : decode method_4_code 0 = .ok (.iload_n 1, 1) := by decide +kernel
theorem d8_1 : decode method_4_code 1 = .ok (.bipush 13, 2) := by decide +kernel
theorem d8_3 : decode method_4_code 3 = .ok (.if_icmp .ne 5, 3) := by decide +kernel
theorem d8_6 : decode method_4_code 6 = .ok (.lconst 1, 1) := by decide +kernel
theorem d8_7 : decode method_4_code 7 = .ok (.lreturn, 1) := by decide +kernel
theorem d8_8 : decode method_4_code 8 = .ok (.iload_n 1, 1) := by decide +kernel
theorem d8_9 : decode method_4_code 9 = .ok (.bipush 10, 2) := by decide +kernel
theorem d8_11 : decode method_4_code 11 = .ok (.if_icmp .ne 11, 3) := by decide +kernel
theorem d8_14 : decode method_4_code 14 = .ok (.iload_n 0, 1) := by decide +kernel
theorem d8_15 : decode method_4_code 15 = .ok (.bipush 13, 2) := by decide +kernel
theorem d8_17 : decode method_4_code 17 = .ok (.if_icmp .eq 5, 3) := by decide +kernel
theorem d8_20 : decode method_4_code 20 = .ok (.lconst 1, 1) := by decide +kernel
theorem d8_21 : decode method_4_code 21 = .ok (.lreturn, 1) := by decide +kernel
theorem d8_22 : decode method_4_code 22 = .ok (.lconst 0, 1) := by decide +kernel
theorem d8_23 : decode method_4_code 23 = .ok (.lreturn, 1) := by decide +kernel
set_option maxRecDepth 65536 in
set_option maxHeartbeats 40000000 in
theorem rm8 (l : Launch) (Z : State) (a0 : Array Value) (hw : ∀ d ∈ tables_1, d.before a0 Z = true) (ws : List Jvm.Cond) (p1 : Int32) (p2 : Int32) (h0 : Heap) (n0 : Nat) (Z0 : n0 ≤ h0.size)  :
    MetFree l (⟨"com/example/pandect/pandect/text/TextPositionAdvancePinLaw", "brk", "(II)J"⟩ : MethodName) (head1 (Jvm.Cond.code (⟨"com/example/pandect/pandect/text/TextPositionAdvancePinLaw", "brk", "(II)J"⟩ : MethodName) method_4_code 2 (some .long) :: ws) ({ frames := 0, cells := 0, slots := 0, locals := 0 } : Room)) (fun aa U => aa = #[(.int p1), (.int p2)] ∧ Z.Warmed39 U.vm ∧ U.heap = h0) (fun _ _ _ _ _ => True) (fun _ U o U' => ∃ v L, o = .returned v ∧ Q_rm8 Z p1 p2 h0 n0 v U'.heap L ∧ FrameEnd U o U' L ({ frames := 0, cells := 0, slots := 0, locals := 0 } : Room).cells ({ frames := 0, cells := 0, slots := 0, locals := 0 } : Room).slots) := by
  refine MetFree.of_bodySF (plainFor_of_name own_pn0) hisR ?_
  intro p e s m args below meth c s₁ Bd hml0 hP hK
  obtain ⟨rfl, hZ, hh⟩ := hP
  have hx := Bd.exec
  have hby := Bd.bytes
  have hml : c.maxLocals = 2 := hml0
  have hlk : meth.locks = false := BodyLoose.notSynchronized Bd
  have hown : s.vm.findClass "com/example/pandect/pandect/text/TextPositionAdvancePinLaw" = some m.cls := findClass_of_methodNamed Bd.named
  have hnm := (name_of_methodNamed Bd.named Bd.method).1
  have X0 : Stand p l e ({ frames := 0, cells := 0, slots := 0, locals := 0 } : Room) s m #[(.int p1), (.int p2)] below meth c s₁ [] 0 0 := Stand.of_body Bd
  have e0 : s₁.heap = h0 := by rw [← hh, Bd.state]; rfl
  have N0 := Fr.nil n0
  show own_Go p e below s (Q_rm8 Z p1 p2 h0 n0) 0 0 (s₁.setTop (entryFrame m #[(.int p1), (.int p2)] 2))
  refine own_go (B := s₁.setTop (mkF m 0 #[.val (.int p1), .val (.int p2)] [])) (fun tgt cont => (XT.entry rfl).trans cont) ?_
  refine own_go (B := s₁.setTop (mkF m 3 #[.val (.int p1), .val (.int p2)] [(.int (13 : Int32)), (.int p2)])) (fun tgt cont => ?_) ?_
  · refine XS.iloadN X0.here hx rfl (hb hby d8_0) rfl ?_
    refine XT.bipushV X0.here hx rfl (13 : Int32) (hb hby d8_1) rfl ?_
    exact cont
  by_cases hc1 : p2 = (13 : Int32)
  ·
    refine own_go (B := s₁.setTop (mkF m 7 #[.val (.int p1), .val (.int p2)] [(.long (1 : Int64))])) (fun tgt cont => ?_) ?_
    · refine XS.icmpNo X0.here hx rfl (hb hby d8_3) rfl (XT.ii_ne_f hc1) ?_
      refine XT.lconstV X0.here hx rfl (1 : Int64) (hb hby d8_6) rfl ?_
      exact cont
    refine own_end X0 (v := some (.long (1 : Int64))) (fun h => by rw [Bd.returns] at h; cases h) hlk ?_ (by decide) (by decide) (fun fs hl => retOut X0 hx Bd.returns rfl (Or.inr (Or.inl ⟨rfl, rfl, _, rfl⟩)) (hb hby d8_7) hl)
    exact ⟨(by unfold own_brk; first | exact rfl | (simp only [if_pos hc1]; first | done | exact rfl)), N0, e0⟩
  ·
    refine own_go (B := s₁.setTop (mkF m 11 #[.val (.int p1), .val (.int p2)] [(.int (10 : Int32)), (.int p2)])) (fun tgt cont => ?_) ?_
    · refine XS.icmpYes X0.here hx rfl (pc0 := 3) (pc' := 8) rfl (hb hby d8_3) rfl (XT.ii_ne_t hc1) (by decide) (by decide) ?_
      refine XS.iloadN X0.here hx rfl (hb hby d8_8) rfl ?_
      refine XT.bipushV X0.here hx rfl (10 : Int32) (hb hby d8_9) rfl ?_
      exact cont
    by_cases hc2 : p2 = (10 : Int32)
    ·
      refine own_go (B := s₁.setTop (mkF m 17 #[.val (.int p1), .val (.int p2)] [(.int (13 : Int32)), (.int p1)])) (fun tgt cont => ?_) ?_
      · refine XS.icmpNo X0.here hx rfl (hb hby d8_11) rfl (XT.ii_ne_f hc2) ?_
        refine XS.iloadN X0.here hx rfl (hb hby d8_14) rfl ?_
        refine XT.bipushV X0.here hx rfl (13 : Int32) (hb hby d8_15) rfl ?_
        exact cont
      by_cases hc3 : p1 = (13 : Int32)
      ·
        refine own_go (B := s₁.setTop (mkF m 23 #[.val (.int p1), .val (.int p2)] [(.long (0 : Int64))])) (fun tgt cont => ?_) ?_
        · refine XS.icmpYes X0.here hx rfl (pc0 := 17) (pc' := 22) rfl (hb hby d8_17) rfl (XT.ii_eq_t hc3) (by decide) (by decide) ?_
          refine XT.lconstV X0.here hx rfl (0 : Int64) (hb hby d8_22) rfl ?_
          exact cont
        refine own_end X0 (v := some (.long (0 : Int64))) (fun h => by rw [Bd.returns] at h; cases h) hlk ?_ (by decide) (by decide) (fun fs hl => retOut X0 hx Bd.returns rfl (Or.inr (Or.inl ⟨rfl, rfl, _, rfl⟩)) (hb hby d8_23) hl)
        exact ⟨(by unfold own_brk; first | exact rfl | (simp only [if_neg hc1, if_pos hc2, if_pos hc3]; first | done | exact rfl)), N0, e0⟩
      ·
        refine own_go (B := s₁.setTop (mkF m 21 #[.val (.int p1), .val (.int p2)] [(.long (1 : Int64))])) (fun tgt cont => ?_) ?_
        · refine XS.icmpNo X0.here hx rfl (hb hby d8_17) rfl (XT.ii_eq_f hc3) ?_
          refine XT.lconstV X0.here hx rfl (1 : Int64) (hb hby d8_20) rfl ?_
          exact cont
        refine own_end X0 (v := some (.long (1 : Int64))) (fun h => by rw [Bd.returns] at h; cases h) hlk ?_ (by decide) (by decide) (fun fs hl => retOut X0 hx Bd.returns rfl (Or.inr (Or.inl ⟨rfl, rfl, _, rfl⟩)) (hb hby d8_21) hl)
        exact ⟨(by unfold own_brk; first | exact rfl | (simp only [if_neg hc1, if_pos hc2, if_neg hc3]; first | done | exact rfl)), N0, e0⟩
    ·
      refine own_go (B := s₁.setTop (mkF m 23 #[.val (.int p1), .val (.int p2)] [(.long (0 : Int64))])) (fun tgt cont => ?_) ?_
      · refine XS.icmpYes X0.here hx rfl (pc0 := 11) (pc' := 22) rfl (hb hby d8_11) rfl (XT.ii_ne_t hc2) (by decide) (by decide) ?_
        refine XT.lconstV X0.here hx rfl (0 : Int64) (hb hby d8_22) rfl ?_
        exact cont
      refine own_end X0 (v := some (.long (0 : Int64))) (fun h => by rw [Bd.returns] at h; cases h) hlk ?_ (by decide) (by decide) (fun fs hl => retOut X0 hx Bd.returns rfl (Or.inr (Or.inl ⟨rfl, rfl, _, rfl⟩)) (hb hby d8_23) hl)
      exact ⟨(by unfold own_brk; first | exact rfl | (simp only [if_neg hc1, if_neg hc2]; first | done | exact rfl)), N0, e0⟩
def Q_rm2 (Z : State) (a : Addr) (u_l : Int64) (u_c : Int64) (u_r : Int32) (h0 : Heap) (n0 : Nat) (v : Option Value) (h : Heap) (L : List Loc) : Prop := v = none ∧ Fr n0 L ∧ Keep h0 h [a] ∧ Exa Z h a "com/example/pandect/pandect/text/TextPosition" ∧ Fld Z h a "com/example/pandect/pandect/text/TextPosition" "line" "J" (.long (1 : Int64)) ∧ Fld Z h a "com/example/pandect/pandect/text/TextPosition" "column" "J" (.long (1 : Int64)) ∧ Fld Z h a "com/example/pandect/pandect/text/TextPosition" "afterCarriageReturn" "Z" (.int u_r)
theorem own_pn1 : plainName "com/example/pandect/pandect/text/TextPosition" = true := by first | (simp [plainName, overriddenIn]; done) | decide +kernel
theorem d2_0 : decode prog_133_method_1_code 0 = .ok (.aload_n 0, 1) := by decide +kernel
theorem d2_1 : decode prog_133_method_1_code 1 = .ok (.invokespecial 1, 3) := by decide +kernel
theorem d2_4 : decode prog_133_method_1_code 4 = .ok (.aload_n 0, 1) := by decide +kernel
theorem d2_5 : decode prog_133_method_1_code 5 = .ok (.lconst 1, 1) := by decide +kernel
theorem d2_6 : decode prog_133_method_1_code 6 = .ok (.putfield 7, 3) := by decide +kernel
theorem d2_9 : decode prog_133_method_1_code 9 = .ok (.aload_n 0, 1) := by decide +kernel
theorem d2_10 : decode prog_133_method_1_code 10 = .ok (.lconst 1, 1) := by decide +kernel
theorem d2_11 : decode prog_133_method_1_code 11 = .ok (.putfield 13, 3) := by decide +kernel
theorem d2_14 : decode prog_133_method_1_code 14 = .ok (.return_, 1) := by decide +kernel
set_option maxRecDepth 65536 in
set_option maxHeartbeats 40000000 in
theorem rm2 (l : Launch) (Z : State) (a0 : Array Value) (hw : ∀ d ∈ tables_1, d.before a0 Z = true) (ws : List Jvm.Cond) (a : Addr) (u_l : Int64) (u_c : Int64) (u_r : Int32) (h0 : Heap) (n0 : Nat) (Z0 : n0 ≤ h0.size) (E_a : Exa Z h0 a "com/example/pandect/pandect/text/TextPosition") (F_a_line : Fld Z h0 a "com/example/pandect/pandect/text/TextPosition" "line" "J" (.long u_l)) (F_a_column : Fld Z h0 a "com/example/pandect/pandect/text/TextPosition" "column" "J" (.long u_c)) (F_a_afterCarriageReturn : Fld Z h0 a "com/example/pandect/pandect/text/TextPosition" "afterCarriageReturn" "Z" (.int u_r)) (g_a : n0 ≤ a)  :
    MetFree l (⟨"com/example/pandect/pandect/text/TextPosition", "<init>", "()V"⟩ : MethodName) (head1 (Jvm.Cond.code (⟨"com/example/pandect/pandect/text/TextPosition", "<init>", "()V"⟩ : MethodName) prog_133_method_1_code 1 none :: ws) ({ frames := 1, cells := 0, slots := 0, locals := 12 } : Room)) (fun aa U => aa = #[(.ref a)] ∧ Z.Warmed39 U.vm ∧ U.heap = h0) (fun _ _ _ _ _ => True) (fun _ U o U' => ∃ v L, o = .returned v ∧ Q_rm2 Z a u_l u_c u_r h0 n0 v U'.heap L ∧ FrameEnd U o U' L ({ frames := 1, cells := 0, slots := 0, locals := 12 } : Room).cells ({ frames := 1, cells := 0, slots := 0, locals := 12 } : Room).slots) := by
  refine MetFree.of_bodySF (plainFor_of_name own_pn1) hisR ?_
  intro p e s m args below meth c s₁ Bd hml0 hP hK
  obtain ⟨rfl, hZ, hh⟩ := hP
  have hx := Bd.exec
  have hby := Bd.bytes
  have hml : c.maxLocals = 1 := hml0
  have hlk : meth.locks = false := BodyLoose.notSynchronized Bd
  have hown : s.vm.findClass "com/example/pandect/pandect/text/TextPosition" = some m.cls := findClass_of_methodNamed Bd.named
  have hnm := (name_of_methodNamed Bd.named Bd.method).1
  have X0 : Stand p l e ({ frames := 1, cells := 0, slots := 0, locals := 12 } : Room) s m #[(.ref a)] below meth c s₁ [] 0 0 := Stand.of_body Bd
  have e0 : s₁.heap = h0 := by rw [← hh, Bd.state]; rfl
  have N0 := Fr.nil n0
  show own_Go p e below s (Q_rm2 Z a u_l u_c u_r h0 n0) 0 0 (s₁.setTop (entryFrame m #[(.ref a)] 1))
  refine own_go (B := s₁.setTop (mkF m 0 #[.val (.ref a)] [])) (fun tgt cont => (XT.entry rfl).trans cont) ?_
  refine own_go (B := s₁.setTop (mkF m 1 #[.val (.ref a)] [(.ref a)])) (fun tgt cont => ?_) ?_
  · refine XS.aloadN X0.here hx rfl (hb hby d2_0) rfl rfl ?_
    exact cont
  obtain ⟨T1, X1, e1, st1⟩ := initO X0 hx hZ hown (hw _ (List.mem_of_getElem? (i := 10) rfl)) (hw _ (List.mem_of_getElem? (i := 11) rfl)) (hw _ (List.mem_of_getElem? (i := 12) rfl)) e0 (g := (mkF m 1 #[.val (.ref a)] [(.ref a)])) rfl (by rw [hml]; rfl) rfl (hb hby d2_1) (by decide) (W := 0) (by show 2 * 0 + _ ≤ _; exact Nat.le_of_eq rfl) (by decide)
  refine own_go (fun tgt cont => st1 tgt cont) ?_
  show own_Go p e below s (Q_rm2 Z a u_l u_c u_r h0 n0) 0 0 (T1.setTop (mkF m 4 #[.val (.ref a)] []))
  refine own_go (B := T1.setTop (mkF m 6 #[.val (.ref a)] [(.long (1 : Int64)), (.ref a)])) (fun tgt cont => ?_) ?_
  · refine XS.aloadN X1.here hx rfl (hb hby d2_4) rfl rfl ?_
    refine XT.lconstV X1.here hx rfl (1 : Int64) (hb hby d2_5) rfl ?_
    exact cont
  obtain ⟨T2, h2, X2, e2, W2, st2⟩ := putF X1 hx hZ hown (host := "") (Or.inl (hw _ (List.mem_of_getElem? (i := 13) rfl))) Via.refl e1 F_a_line E_a (Or.inl (hw _ (List.mem_of_getElem? (i := 14) rfl))) (hw _ (List.mem_of_getElem? (i := 5) rfl)) (ty := .long) (by decide) rfl rfl (g := (mkF m 6 #[.val (.ref a)] [(.long (1 : Int64)), (.ref a)])) rfl rfl (hb hby d2_6)
  have fw2 := F_a_line.same W2
  have N2 := Fr.snoc X2 N0 g_a
  have kk2 : Keep h0 h2 [a] := (Keep.refl h0 [a]).wr W2 (Or.inl (List.mem_of_getElem? (i := 0) rfl))
  have zp2 : n0 ≤ h2.size := Nat.le_trans Z0 kk2.1
  refine own_go (fun tgt cont => st2 tgt cont) ?_
  show own_Go p e below s (Q_rm2 Z a u_l u_c u_r h0 n0) 0 0 (T2.setTop (mkF m 9 #[.val (.ref a)] []))
  refine own_go (B := T2.setTop (mkF m 11 #[.val (.ref a)] [(.long (1 : Int64)), (.ref a)])) (fun tgt cont => ?_) ?_
  · refine XS.aloadN X2.here hx rfl (hb hby d2_9) rfl rfl ?_
    refine XT.lconstV X2.here hx rfl (1 : Int64) (hb hby d2_10) rfl ?_
    exact cont
  have f4 := (F_a_column.other W2 (Or.inr (slot_ne (t := .long) (t' := .long) (Or.inl (hw _ (List.mem_of_getElem? (i := 16) rfl))) (Or.inl (hw _ (List.mem_of_getElem? (i := 14) rfl))) (by decide) (by decide) (by decide))))
  have f5 := (E_a.wr W2)
  obtain ⟨T3, h3, X3, e3, W3, st3⟩ := putF X2 hx hZ hown (host := "") (Or.inl (hw _ (List.mem_of_getElem? (i := 15) rfl))) Via.refl e2 f4 f5 (Or.inl (hw _ (List.mem_of_getElem? (i := 16) rfl))) (hw _ (List.mem_of_getElem? (i := 5) rfl)) (ty := .long) (by decide) rfl rfl (g := (mkF m 11 #[.val (.ref a)] [(.long (1 : Int64)), (.ref a)])) rfl rfl (hb hby d2_11)
  have fw3 := f4.same W3
  have N3 := Fr.snoc X3 N2 g_a
  have kk3 : Keep h0 h3 [a] := kk2.wr W3 (Or.inl (List.mem_of_getElem? (i := 0) rfl))
  have zp3 : n0 ≤ h3.size := Nat.le_trans Z0 kk3.1
  refine own_go (fun tgt cont => st3 tgt cont) ?_
  show own_Go p e below s (Q_rm2 Z a u_l u_c u_r h0 n0) 0 0 (T3.setTop (mkF m 14 #[.val (.ref a)] []))
  refine own_end X3 (v := none) (fun _ => rfl) hlk ?_ (by decide) (by decide) (fun fs hl => X3.returnOut hx Bd.returns (hb hby d2_14) hl)
  have f6 := (f5.wr W3)
  have f7 := (fw2.other W3 (Or.inr (slot_ne (t := .long) (t' := .long) (Or.inl (hw _ (List.mem_of_getElem? (i := 14) rfl))) (Or.inl (hw _ (List.mem_of_getElem? (i := 16) rfl))) (by decide) (by decide) (by decide))))
  have f8 := ((F_a_afterCarriageReturn.other W2 (Or.inr (slot_ne (t := .boolean) (t' := .long) (Or.inl (hw _ (List.mem_of_getElem? (i := 33) rfl))) (Or.inl (hw _ (List.mem_of_getElem? (i := 14) rfl))) (by decide) (by decide) (by decide)))).other W3 (Or.inr (slot_ne (t := .boolean) (t' := .long) (Or.inl (hw _ (List.mem_of_getElem? (i := 33) rfl))) (Or.inl (hw _ (List.mem_of_getElem? (i := 16) rfl))) (by decide) (by decide) (by decide))))
  rw [e3]
  exact ⟨rfl, N3, kk3, f6, f7, fw3, f8⟩
def Q_rm4 (Z : State) (a : Addr) (u_l : Int64) (h0 : Heap) (n0 : Nat) (v : Option Value) (h : Heap) (L : List Loc) : Prop := v = some (.long u_l) ∧ Fr n0 L ∧ h = h0
theorem d4_0 : decode prog_133_method_5_code 0 = .ok (.aload_n 0, 1) := by decide +kernel
theorem d4_1 : decode prog_133_method_5_code 1 = .ok (.getfield 7, 3) := by decide +kernel
theorem d4_4 : decode prog_133_method_5_code 4 = .ok (.lreturn, 1) := by decide +kernel
set_option maxRecDepth 65536 in
set_option maxHeartbeats 40000000 in
theorem rm4 (l : Launch) (Z : State) (a0 : Array Value) (hw : ∀ d ∈ tables_1, d.before a0 Z = true) (ws : List Jvm.Cond) (a : Addr) (u_l : Int64) (h0 : Heap) (n0 : Nat) (Z0 : n0 ≤ h0.size) (E_a : Exa Z h0 a "com/example/pandect/pandect/text/TextPosition") (F_a_line : Fld Z h0 a "com/example/pandect/pandect/text/TextPosition" "line" "J" (.long u_l))  :
    MetFree l (⟨"com/example/pandect/pandect/text/TextPosition", "line", "()J"⟩ : MethodName) (head1 (Jvm.Cond.code (⟨"com/example/pandect/pandect/text/TextPosition", "line", "()J"⟩ : MethodName) prog_133_method_5_code 1 (some .long) :: ws) ({ frames := 0, cells := 0, slots := 0, locals := 0 } : Room)) (fun aa U => aa = #[(.ref a)] ∧ Z.Warmed39 U.vm ∧ U.heap = h0) (fun _ _ _ _ _ => True) (fun _ U o U' => ∃ v L, o = .returned v ∧ Q_rm4 Z a u_l h0 n0 v U'.heap L ∧ FrameEnd U o U' L ({ frames := 0, cells := 0, slots := 0, locals := 0 } : Room).cells ({ frames := 0, cells := 0, slots := 0, locals := 0 } : Room).slots) := by
  refine MetFree.of_bodySF (plainFor_of_name own_pn1) hisR ?_
  intro p e s m args below meth c s₁ Bd hml0 hP hK
  obtain ⟨rfl, hZ, hh⟩ := hP
  have hx := Bd.exec
  have hby := Bd.bytes
  have hml : c.maxLocals = 1 := hml0
  have hlk : meth.locks = false := BodyLoose.notSynchronized Bd
  have hown : s.vm.findClass "com/example/pandect/pandect/text/TextPosition" = some m.cls := findClass_of_methodNamed Bd.named
  have hnm := (name_of_methodNamed Bd.named Bd.method).1
  have X0 : Stand p l e ({ frames := 0, cells := 0, slots := 0, locals := 0 } : Room) s m #[(.ref a)] below meth c s₁ [] 0 0 := Stand.of_body Bd
  have e0 : s₁.heap = h0 := by rw [← hh, Bd.state]; rfl
  have N0 := Fr.nil n0
  show own_Go p e below s (Q_rm4 Z a u_l h0 n0) 0 0 (s₁.setTop (entryFrame m #[(.ref a)] 1))
  refine own_go (B := s₁.setTop (mkF m 0 #[.val (.ref a)] [])) (fun tgt cont => (XT.entry rfl).trans cont) ?_
  refine own_go (B := s₁.setTop (mkF m 1 #[.val (.ref a)] [(.ref a)])) (fun tgt cont => ?_) ?_
  · refine XS.aloadN X0.here hx rfl (hb hby d4_0) rfl rfl ?_
    exact cont
  obtain ⟨T1, X1, e1, st1⟩ := getF X0 hx hZ hown (host := "") (Or.inl (hw _ (List.mem_of_getElem? (i := 13) rfl))) Via.refl e0 F_a_line (g := (mkF m 1 #[.val (.ref a)] [(.ref a)])) rfl rfl (hb hby d4_1)
  refine own_go (fun tgt cont => st1 tgt cont) ?_
  show own_Go p e below s (Q_rm4 Z a u_l h0 n0) 0 0 (T1.setTop (mkF m 4 #[.val (.ref a)] [(.long u_l)]))
  refine own_end X1 (v := some (.long u_l)) (fun h => by rw [Bd.returns] at h; cases h) hlk ?_ (by decide) (by decide) (fun fs hl => retOut X1 hx Bd.returns rfl (Or.inr (Or.inl ⟨rfl, rfl, _, rfl⟩)) (hb hby d4_4) hl)
  exact ⟨rfl, N0, e1⟩
def Q_rm5 (Z : State) (a : Addr) (u_c : Int64) (h0 : Heap) (n0 : Nat) (v : Option Value) (h : Heap) (L : List Loc) : Prop := v = some (.long u_c) ∧ Fr n0 L ∧ h = h0
theorem d5_0 : decode prog_133_method_6_code 0 = .ok (.aload_n 0, 1) := by decide +kernel
theorem d5_1 : decode prog_133_method_6_code 1 = .ok (.getfield 13, 3) := by decide +kernel
theorem d5_4 : decode prog_133_method_6_code 4 = .ok (.lreturn, 1) := by decide +kernel
set_option maxRecDepth 65536 in
set_option maxHeartbeats 40000000 in
theorem rm5 (l : Launch) (Z : State) (a0 : Array Value) (hw : ∀ d ∈ tables_1, d.before a0 Z = true) (ws : List Jvm.Cond) (a : Addr) (u_c : Int64) (h0 : Heap) (n0 : Nat) (Z0 : n0 ≤ h0.size) (E_a : Exa Z h0 a "com/example/pandect/pandect/text/TextPosition") (F_a_column : Fld Z h0 a "com/example/pandect/pandect/text/TextPosition" "column" "J" (.long u_c))  :
    MetFree l (⟨"com/example/pandect/pandect/text/TextPosition", "column", "()J"⟩ : MethodName) (head1 (Jvm.Cond.code (⟨"com/example/pandect/pandect/text/TextPosition", "column", "()J"⟩ : MethodName) prog_133_method_6_code 1 (some .long) :: ws) ({ frames := 0, cells := 0, slots := 0, locals := 0 } : Room)) (fun aa U => aa = #[(.ref a)] ∧ Z.Warmed39 U.vm ∧ U.heap = h0) (fun _ _ _ _ _ => True) (fun _ U o U' => ∃ v L, o = .returned v ∧ Q_rm5 Z a u_c h0 n0 v U'.heap L ∧ FrameEnd U o U' L ({ frames := 0, cells := 0, slots := 0, locals := 0 } : Room).cells ({ frames := 0, cells := 0, slots := 0, locals := 0 } : Room).slots) := by
  refine MetFree.of_bodySF (plainFor_of_name own_pn1) hisR ?_
  intro p e s m args below meth c s₁ Bd hml0 hP hK
  obtain ⟨rfl, hZ, hh⟩ := hP
  have hx := Bd.exec
  have hby := Bd.bytes
  have hml : c.maxLocals = 1 := hml0
  have hlk : meth.locks = false := BodyLoose.notSynchronized Bd
  have hown : s.vm.findClass "com/example/pandect/pandect/text/TextPosition" = some m.cls := findClass_of_methodNamed Bd.named
  have hnm := (name_of_methodNamed Bd.named Bd.method).1
  have X0 : Stand p l e ({ frames := 0, cells := 0, slots := 0, locals := 0 } : Room) s m #[(.ref a)] below meth c s₁ [] 0 0 := Stand.of_body Bd
  have e0 : s₁.heap = h0 := by rw [← hh, Bd.state]; rfl
  have N0 := Fr.nil n0
  show own_Go p e below s (Q_rm5 Z a u_c h0 n0) 0 0 (s₁.setTop (entryFrame m #[(.ref a)] 1))
  refine own_go (B := s₁.setTop (mkF m 0 #[.val (.ref a)] [])) (fun tgt cont => (XT.entry rfl).trans cont) ?_
  refine own_go (B := s₁.setTop (mkF m 1 #[.val (.ref a)] [(.ref a)])) (fun tgt cont => ?_) ?_
  · refine XS.aloadN X0.here hx rfl (hb hby d5_0) rfl rfl ?_
    exact cont
  obtain ⟨T1, X1, e1, st1⟩ := getF X0 hx hZ hown (host := "") (Or.inl (hw _ (List.mem_of_getElem? (i := 15) rfl))) Via.refl e0 F_a_column (g := (mkF m 1 #[.val (.ref a)] [(.ref a)])) rfl rfl (hb hby d5_1)
  refine own_go (fun tgt cont => st1 tgt cont) ?_
  show own_Go p e below s (Q_rm5 Z a u_c h0 n0) 0 0 (T1.setTop (mkF m 4 #[.val (.ref a)] [(.long u_c)]))
  refine own_end X1 (v := some (.long u_c)) (fun h => by rw [Bd.returns] at h; cases h) hlk ?_ (by decide) (by decide) (fun fs hl => retOut X1 hx Bd.returns rfl (Or.inr (Or.inl ⟨rfl, rfl, _, rfl⟩)) (hb hby d5_4) hl)
  exact ⟨rfl, N0, e1⟩
def own_adv_line (p1 : Int32) (u_l : Int64) (u_r : Int32) : Int64 := if p1 = (10 : Int32) then if u_r = 0 then (u_l + (1 : Int64)) else u_l else if p1 = (13 : Int32) then (u_l + (1 : Int64)) else u_l
def own_adv_column (p1 : Int32) (u_c : Int64) (u_r : Int32) : Int64 := if p1 = (10 : Int32) then if u_r = 0 then (1 : Int64) else u_c else if p1 = (13 : Int32) then (1 : Int64) else (u_c + (1 : Int64))
def own_adv_afterCarriageReturn (p1 : Int32) : Int32 := if p1 = (10 : Int32) then (0 : Int32) else if p1 = (13 : Int32) then (1 : Int32) else (0 : Int32)
def Q_rm6 (Z : State) (a : Addr) (p1 : Int32) (u_l : Int64) (u_c : Int64) (u_r : Int32) (h0 : Heap) (n0 : Nat) (v : Option Value) (h : Heap) (L : List Loc) : Prop := v = none ∧ Fr n0 L ∧ Keep h0 h [a] ∧ Exa Z h a "com/example/pandect/pandect/text/TextPosition" ∧ Fld Z h a "com/example/pandect/pandect/text/TextPosition" "line" "J" (.long (own_adv_line p1 u_l u_r)) ∧ Fld Z h a "com/example/pandect/pandect/text/TextPosition" "column" "J" (.long (own_adv_column p1 u_c u_r)) ∧ Fld Z h a "com/example/pandect/pandect/text/TextPosition" "afterCarriageReturn" "Z" (.int (own_adv_afterCarriageReturn p1))
theorem d6_0 : decode prog_133_method_3_code 0 = .ok (.iload_n 1, 1) := by decide +kernel
theorem d6_1 : decode prog_133_method_3_code 1 = .ok (.bipush 10, 2) := by decide +kernel
theorem d6_3 : decode prog_133_method_3_code 3 = .ok (.if_icmp .ne 33, 3) := by decide +kernel
theorem d6_6 : decode prog_133_method_3_code 6 = .ok (.aload_n 0, 1) := by decide +kernel
theorem d6_7 : decode prog_133_method_3_code 7 = .ok (.getfield 16, 3) := by decide +kernel
theorem d6_10 : decode prog_133_method_3_code 10 = .ok (.ifCond .ne 18, 3) := by decide +kernel
theorem d6_13 : decode prog_133_method_3_code 13 = .ok (.aload_n 0, 1) := by decide +kernel
theorem d6_14 : decode prog_133_method_3_code 14 = .ok (.dup, 1) := by decide +kernel
theorem d6_15 : decode prog_133_method_3_code 15 = .ok (.getfield 7, 3) := by decide +kernel
theorem d6_18 : decode prog_133_method_3_code 18 = .ok (.lconst 1, 1) := by decide +kernel
theorem d6_19 : decode prog_133_method_3_code 19 = .ok (.ladd, 1) := by decide +kernel
theorem d6_20 : decode prog_133_method_3_code 20 = .ok (.putfield 7, 3) := by decide +kernel
theorem d6_23 : decode prog_133_method_3_code 23 = .ok (.aload_n 0, 1) := by decide +kernel
theorem d6_24 : decode prog_133_method_3_code 24 = .ok (.lconst 1, 1) := by decide +kernel
theorem d6_25 : decode prog_133_method_3_code 25 = .ok (.putfield 13, 3) := by decide +kernel
theorem d6_28 : decode prog_133_method_3_code 28 = .ok (.aload_n 0, 1) := by decide +kernel
theorem d6_29 : decode prog_133_method_3_code 29 = .ok (.iconst 0, 1) := by decide +kernel
theorem d6_30 : decode prog_133_method_3_code 30 = .ok (.putfield 16, 3) := by decide +kernel
theorem d6_33 : decode prog_133_method_3_code 33 = .ok (.goto 47, 3) := by decide +kernel
theorem d6_36 : decode prog_133_method_3_code 36 = .ok (.iload_n 1, 1) := by decide +kernel
theorem d6_37 : decode prog_133_method_3_code 37 = .ok (.bipush 13, 2) := by decide +kernel
theorem d6_39 : decode prog_133_method_3_code 39 = .ok (.if_icmp .ne 26, 3) := by decide +kernel
theorem d6_42 : decode prog_133_method_3_code 42 = .ok (.aload_n 0, 1) := by decide +kernel
theorem d6_43 : decode prog_133_method_3_code 43 = .ok (.dup, 1) := by decide +kernel
theorem d6_44 : decode prog_133_method_3_code 44 = .ok (.getfield 7, 3) := by decide +kernel
theorem d6_47 : decode prog_133_method_3_code 47 = .ok (.lconst 1, 1) := by decide +kernel
theorem d6_48 : decode prog_133_method_3_code 48 = .ok (.ladd, 1) := by decide +kernel
theorem d6_49 : decode prog_133_method_3_code 49 = .ok (.putfield 7, 3) := by decide +kernel
theorem d6_52 : decode prog_133_method_3_code 52 = .ok (.aload_n 0, 1) := by decide +kernel
theorem d6_53 : decode prog_133_method_3_code 53 = .ok (.lconst 1, 1) := by decide +kernel
theorem d6_54 : decode prog_133_method_3_code 54 = .ok (.putfield 13, 3) := by decide +kernel
theorem d6_57 : decode prog_133_method_3_code 57 = .ok (.aload_n 0, 1) := by decide +kernel
theorem d6_58 : decode prog_133_method_3_code 58 = .ok (.iconst 1, 1) := by decide +kernel
theorem d6_59 : decode prog_133_method_3_code 59 = .ok (.putfield 16, 3) := by decide +kernel
theorem d6_62 : decode prog_133_method_3_code 62 = .ok (.goto 18, 3) := by decide +kernel
theorem d6_65 : decode prog_133_method_3_code 65 = .ok (.aload_n 0, 1) := by decide +kernel
theorem d6_66 : decode prog_133_method_3_code 66 = .ok (.dup, 1) := by decide +kernel
theorem d6_67 : decode prog_133_method_3_code 67 = .ok (.getfield 13, 3) := by decide +kernel
theorem d6_70 : decode prog_133_method_3_code 70 = .ok (.lconst 1, 1) := by decide +kernel
theorem d6_71 : decode prog_133_method_3_code 71 = .ok (.ladd, 1) := by decide +kernel
theorem d6_72 : decode prog_133_method_3_code 72 = .ok (.putfield 13, 3) := by decide +kernel
theorem d6_75 : decode prog_133_method_3_code 75 = .ok (.aload_n 0, 1) := by decide +kernel
theorem d6_76 : decode prog_133_method_3_code 76 = .ok (.iconst 0, 1) := by decide +kernel
theorem d6_77 : decode prog_133_method_3_code 77 = .ok (.putfield 16, 3) := by decide +kernel
theorem d6_80 : decode prog_133_method_3_code 80 = .ok (.return_, 1) := by decide +kernel
set_option maxRecDepth 65536 in
set_option maxHeartbeats 40000000 in
theorem rm6 (l : Launch) (Z : State) (a0 : Array Value) (hw : ∀ d ∈ tables_1, d.before a0 Z = true) (ws : List Jvm.Cond) (a : Addr) (p1 : Int32) (u_l : Int64) (u_c : Int64) (u_r : Int32) (h0 : Heap) (n0 : Nat) (Z0 : n0 ≤ h0.size) (E_a : Exa Z h0 a "com/example/pandect/pandect/text/TextPosition") (F_a_line : Fld Z h0 a "com/example/pandect/pandect/text/TextPosition" "line" "J" (.long u_l)) (F_a_column : Fld Z h0 a "com/example/pandect/pandect/text/TextPosition" "column" "J" (.long u_c)) (F_a_afterCarriageReturn : Fld Z h0 a "com/example/pandect/pandect/text/TextPosition" "afterCarriageReturn" "Z" (.int u_r)) (g_a : n0 ≤ a)  :
    MetFree l (⟨"com/example/pandect/pandect/text/TextPosition", "advance", "(I)V"⟩ : MethodName) (head1 (Jvm.Cond.code (⟨"com/example/pandect/pandect/text/TextPosition", "advance", "(I)V"⟩ : MethodName) prog_133_method_3_code 2 none :: ws) ({ frames := 0, cells := 0, slots := 0, locals := 0 } : Room)) (fun aa U => aa = #[(.ref a), (.int p1)] ∧ Z.Warmed39 U.vm ∧ U.heap = h0) (fun _ _ _ _ _ => True) (fun _ U o U' => ∃ v L, o = .returned v ∧ Q_rm6 Z a p1 u_l u_c u_r h0 n0 v U'.heap L ∧ FrameEnd U o U' L ({ frames := 0, cells := 0, slots := 0, locals := 0 } : Room).cells ({ frames := 0, cells := 0, slots := 0, locals := 0 } : Room).slots) := by
  refine MetFree.of_bodySF (plainFor_of_name own_pn1) hisR ?_
  intro p e s m args below meth c s₁ Bd hml0 hP hK
  obtain ⟨rfl, hZ, hh⟩ := hP
  have hx := Bd.exec
  have hby := Bd.bytes
  have hml : c.maxLocals = 2 := hml0
  have hlk : meth.locks = false := BodyLoose.notSynchronized Bd
  have hown : s.vm.findClass "com/example/pandect/pandect/text/TextPosition" = some m.cls := findClass_of_methodNamed Bd.named
  have hnm := (name_of_methodNamed Bd.named Bd.method).1
  have X0 : Stand p l e ({ frames := 0, cells := 0, slots := 0, locals := 0 } : Room) s m #[(.ref a), (.int p1)] below meth c s₁ [] 0 0 := Stand.of_body Bd
  have e0 : s₁.heap = h0 := by rw [← hh, Bd.state]; rfl
  have N0 := Fr.nil n0
  show own_Go p e below s (Q_rm6 Z a p1 u_l u_c u_r h0 n0) 0 0 (s₁.setTop (entryFrame m #[(.ref a), (.int p1)] 2))
  refine own_go (B := s₁.setTop (mkF m 0 #[.val (.ref a), .val (.int p1)] [])) (fun tgt cont => (XT.entry rfl).trans cont) ?_
  refine own_go (B := s₁.setTop (mkF m 3 #[.val (.ref a), .val (.int p1)] [(.int (10 : Int32)), (.int p1)])) (fun tgt cont => ?_) ?_
  · refine XS.iloadN X0.here hx rfl (hb hby d6_0) rfl ?_
    refine XT.bipushV X0.here hx rfl (10 : Int32) (hb hby d6_1) rfl ?_
    exact cont
  by_cases hc1 : p1 = (10 : Int32)
  ·
    refine own_go (B := s₁.setTop (mkF m 7 #[.val (.ref a), .val (.int p1)] [(.ref a)])) (fun tgt cont => ?_) ?_
    · refine XS.icmpNo X0.here hx rfl (hb hby d6_3) rfl (XT.ii_ne_f hc1) ?_
      refine XS.aloadN X0.here hx rfl (hb hby d6_6) rfl rfl ?_
      exact cont
    obtain ⟨T2, X2, e2, st2⟩ := getF X0 hx hZ hown (host := "") (Or.inl (hw _ (List.mem_of_getElem? (i := 32) rfl))) Via.refl e0 F_a_afterCarriageReturn (g := (mkF m 7 #[.val (.ref a), .val (.int p1)] [(.ref a)])) rfl rfl (hb hby d6_7)
    refine own_go (fun tgt cont => st2 tgt cont) ?_
    show own_Go p e below s (Q_rm6 Z a p1 u_l u_c u_r h0 n0) 0 0 (T2.setTop (mkF m 10 #[.val (.ref a), .val (.int p1)] [(.int u_r)]))
    by_cases hc3 : u_r = 0
    ·
      refine own_go (B := T2.setTop (mkF m 15 #[.val (.ref a), .val (.int p1)] [(.ref a), (.ref a)])) (fun tgt cont => ?_) ?_
      · refine XS.ifNo X2.here hx rfl (hb hby d6_10) rfl (XT.i0_ne_f hc3) ?_
        refine XS.aloadN X2.here hx rfl (hb hby d6_13) rfl rfl ?_
        refine XS.dup X2.here hx rfl (hb hby d6_14) rfl rfl ?_
        exact cont
      obtain ⟨T4, X4, e4, st4⟩ := getF X2 hx hZ hown (host := "") (Or.inl (hw _ (List.mem_of_getElem? (i := 13) rfl))) Via.refl e2 F_a_line (g := (mkF m 15 #[.val (.ref a), .val (.int p1)] [(.ref a), (.ref a)])) rfl rfl (hb hby d6_15)
      refine own_go (fun tgt cont => st4 tgt cont) ?_
      show own_Go p e below s (Q_rm6 Z a p1 u_l u_c u_r h0 n0) 0 0 (T4.setTop (mkF m 18 #[.val (.ref a), .val (.int p1)] [(.long u_l), (.ref a)]))
      refine own_go (B := T4.setTop (mkF m 20 #[.val (.ref a), .val (.int p1)] [(.long (u_l + (1 : Int64))), (.ref a)])) (fun tgt cont => ?_) ?_
      · refine XT.lconstV X4.here hx rfl (1 : Int64) (hb hby d6_18) rfl ?_
        refine XS.ladd X4.here hx rfl (hb hby d6_19) rfl ?_
        exact cont
      obtain ⟨T5, h5, X5, e5, W5, st5⟩ := putF X4 hx hZ hown (host := "") (Or.inl (hw _ (List.mem_of_getElem? (i := 13) rfl))) Via.refl e4 F_a_line E_a (Or.inl (hw _ (List.mem_of_getElem? (i := 14) rfl))) (hw _ (List.mem_of_getElem? (i := 5) rfl)) (ty := .long) (by decide) rfl rfl (g := (mkF m 20 #[.val (.ref a), .val (.int p1)] [(.long (u_l + (1 : Int64))), (.ref a)])) rfl rfl (hb hby d6_20)
      have fw5 := F_a_line.same W5
      have N5 := Fr.snoc X5 N0 g_a
      have kk5 : Keep h0 h5 [a] := (Keep.refl h0 [a]).wr W5 (Or.inl (List.mem_of_getElem? (i := 0) rfl))
      have zp5 : n0 ≤ h5.size := Nat.le_trans Z0 kk5.1
      refine own_go (fun tgt cont => st5 tgt cont) ?_
      show own_Go p e below s (Q_rm6 Z a p1 u_l u_c u_r h0 n0) 0 0 (T5.setTop (mkF m 23 #[.val (.ref a), .val (.int p1)] []))
      refine own_go (B := T5.setTop (mkF m 25 #[.val (.ref a), .val (.int p1)] [(.long (1 : Int64)), (.ref a)])) (fun tgt cont => ?_) ?_
      · refine XS.aloadN X5.here hx rfl (hb hby d6_23) rfl rfl ?_
        refine XT.lconstV X5.here hx rfl (1 : Int64) (hb hby d6_24) rfl ?_
        exact cont
      have f7 := (F_a_column.other W5 (Or.inr (slot_ne (t := .long) (t' := .long) (Or.inl (hw _ (List.mem_of_getElem? (i := 16) rfl))) (Or.inl (hw _ (List.mem_of_getElem? (i := 14) rfl))) (by decide) (by decide) (by decide))))
      have f8 := (E_a.wr W5)
      obtain ⟨T6, h6, X6, e6, W6, st6⟩ := putF X5 hx hZ hown (host := "") (Or.inl (hw _ (List.mem_of_getElem? (i := 15) rfl))) Via.refl e5 f7 f8 (Or.inl (hw _ (List.mem_of_getElem? (i := 16) rfl))) (hw _ (List.mem_of_getElem? (i := 5) rfl)) (ty := .long) (by decide) rfl rfl (g := (mkF m 25 #[.val (.ref a), .val (.int p1)] [(.long (1 : Int64)), (.ref a)])) rfl rfl (hb hby d6_25)
      have fw6 := f7.same W6
      have N6 := Fr.snoc X6 N5 g_a
      have kk6 : Keep h0 h6 [a] := kk5.wr W6 (Or.inl (List.mem_of_getElem? (i := 0) rfl))
      have zp6 : n0 ≤ h6.size := Nat.le_trans Z0 kk6.1
      refine own_go (fun tgt cont => st6 tgt cont) ?_
      show own_Go p e below s (Q_rm6 Z a p1 u_l u_c u_r h0 n0) 0 0 (T6.setTop (mkF m 28 #[.val (.ref a), .val (.int p1)] []))
      refine own_go (B := T6.setTop (mkF m 30 #[.val (.ref a), .val (.int p1)] [(.int (0 : Int32)), (.ref a)])) (fun tgt cont => ?_) ?_
      · refine XS.aloadN X6.here hx rfl (hb hby d6_28) rfl rfl ?_
        refine XT.iconstV X6.here hx rfl (0 : Int32) (hb hby d6_29) rfl ?_
        exact cont
      have f10 := ((F_a_afterCarriageReturn.other W5 (Or.inr (slot_ne (t := .boolean) (t' := .long) (Or.inl (hw _ (List.mem_of_getElem? (i := 33) rfl))) (Or.inl (hw _ (List.mem_of_getElem? (i := 14) rfl))) (by decide) (by decide) (by decide)))).other W6 (Or.inr (slot_ne (t := .boolean) (t' := .long) (Or.inl (hw _ (List.mem_of_getElem? (i := 33) rfl))) (Or.inl (hw _ (List.mem_of_getElem? (i := 16) rfl))) (by decide) (by decide) (by decide))))
      have f11 := (f8.wr W6)
      obtain ⟨T9, h9, X9, e9, W9, st9⟩ := putFN X6 hx hZ hown (hw _ (List.mem_of_getElem? (i := 32) rfl)) Via.refl e6 f10 f11 (Or.inl (hw _ (List.mem_of_getElem? (i := 33) rfl))) (hw _ (List.mem_of_getElem? (i := 5) rfl)) (ty := .boolean) (v' := (.int (0 : Int32))) (by decide) rfl rfl (g := (mkF m 30 #[.val (.ref a), .val (.int p1)] [(.int (0 : Int32)), (.ref a)])) rfl rfl (hb hby d6_30)
      have fw9 := f10.same W9
      have N9 := Fr.snoc X9 N6 g_a
      have kk9 : Keep h0 h9 [a] := kk6.wr W9 (Or.inl (List.mem_of_getElem? (i := 0) rfl))
      have zp9 : n0 ≤ h9.size := Nat.le_trans Z0 kk9.1
      refine own_go (fun tgt cont => st9 tgt cont) ?_
      show own_Go p e below s (Q_rm6 Z a p1 u_l u_c u_r h0 n0) 0 0 (T9.setTop (mkF m 33 #[.val (.ref a), .val (.int p1)] []))
      refine own_go (B := T9.setTop (mkF m 80 #[.val (.ref a), .val (.int p1)] [])) (fun tgt cont => ?_) ?_
      · refine XS.goto X9.here hx rfl (pc0 := 33) (pc' := 80) rfl (hb hby d6_33) (by decide) (by decide) ?_
        exact cont
      refine own_end X9 (v := none) (fun _ => rfl) hlk ?_ (by decide) (by decide) (fun fs hl => X9.returnOut hx Bd.returns (hb hby d6_80) hl)
      have f12 := (f11.wr W9)
      have f13 := ((fw5.other W6 (Or.inr (slot_ne (t := .long) (t' := .long) (Or.inl (hw _ (List.mem_of_getElem? (i := 14) rfl))) (Or.inl (hw _ (List.mem_of_getElem? (i := 16) rfl))) (by decide) (by decide) (by decide)))).other W9 (Or.inr (slot_ne (t := .long) (t' := .boolean) (Or.inl (hw _ (List.mem_of_getElem? (i := 14) rfl))) (Or.inl (hw _ (List.mem_of_getElem? (i := 33) rfl))) (by decide) (by decide) (by decide))))
      have f14 := (fw6.other W9 (Or.inr (slot_ne (t := .long) (t' := .boolean) (Or.inl (hw _ (List.mem_of_getElem? (i := 16) rfl))) (Or.inl (hw _ (List.mem_of_getElem? (i := 33) rfl))) (by decide) (by decide) (by decide))))
      rw [e9]
      exact ⟨rfl, N9, kk9, f12, (by unfold own_adv_line; first | exact f13 | (simp only [if_pos hc1, if_pos hc3]; first | done | exact f13)), (by unfold own_adv_column; first | exact f14 | (simp only [if_pos hc1, if_pos hc3]; first | done | exact f14)), (by unfold own_adv_afterCarriageReturn; first | exact fw9 | (simp only [if_pos hc1, if_pos hc3]; first | done | exact fw9))⟩
    ·
      refine own_go (B := T2.setTop (mkF m 30 #[.val (.ref a), .val (.int p1)] [(.int (0 : Int32)), (.ref a)])) (fun tgt cont => ?_) ?_
      · refine XS.ifYes X2.here hx rfl (pc0 := 10) (pc' := 28) rfl (hb hby d6_10) rfl (XT.i0_ne_t hc3) (by decide) (by decide) ?_
        refine XS.aloadN X2.here hx rfl (hb hby d6_28) rfl rfl ?_
        refine XT.iconstV X2.here hx rfl (0 : Int32) (hb hby d6_29) rfl ?_
        exact cont
      obtain ⟨T15, h15, X15, e15, W15, st15⟩ := putFN X2 hx hZ hown (hw _ (List.mem_of_getElem? (i := 32) rfl)) Via.refl e2 F_a_afterCarriageReturn E_a (Or.inl (hw _ (List.mem_of_getElem? (i := 33) rfl))) (hw _ (List.mem_of_getElem? (i := 5) rfl)) (ty := .boolean) (v' := (.int (0 : Int32))) (by decide) rfl rfl (g := (mkF m 30 #[.val (.ref a), .val (.int p1)] [(.int (0 : Int32)), (.ref a)])) rfl rfl (hb hby d6_30)
      have fw15 := F_a_afterCarriageReturn.same W15
      have N15 := Fr.snoc X15 N0 g_a
      have kk15 : Keep h0 h15 [a] := (Keep.refl h0 [a]).wr W15 (Or.inl (List.mem_of_getElem? (i := 0) rfl))
      have zp15 : n0 ≤ h15.size := Nat.le_trans Z0 kk15.1
      refine own_go (fun tgt cont => st15 tgt cont) ?_
      show own_Go p e below s (Q_rm6 Z a p1 u_l u_c u_r h0 n0) 0 0 (T15.setTop (mkF m 33 #[.val (.ref a), .val (.int p1)] []))
      refine own_go (B := T15.setTop (mkF m 80 #[.val (.ref a), .val (.int p1)] [])) (fun tgt cont => ?_) ?_
      · refine XS.goto X15.here hx rfl (pc0 := 33) (pc' := 80) rfl (hb hby d6_33) (by decide) (by decide) ?_
        exact cont
      refine own_end X15 (v := none) (fun _ => rfl) hlk ?_ (by decide) (by decide) (fun fs hl => X15.returnOut hx Bd.returns (hb hby d6_80) hl)
      have f16 := (E_a.wr W15)
      have f17 := (F_a_line.other W15 (Or.inr (slot_ne (t := .long) (t' := .boolean) (Or.inl (hw _ (List.mem_of_getElem? (i := 14) rfl))) (Or.inl (hw _ (List.mem_of_getElem? (i := 33) rfl))) (by decide) (by decide) (by decide))))
      have f18 := (F_a_column.other W15 (Or.inr (slot_ne (t := .long) (t' := .boolean) (Or.inl (hw _ (List.mem_of_getElem? (i := 16) rfl))) (Or.inl (hw _ (List.mem_of_getElem? (i := 33) rfl))) (by decide) (by decide) (by decide))))
      rw [e15]
      exact ⟨rfl, N15, kk15, f16, (by unfold own_adv_line; first | exact f17 | (simp only [if_pos hc1, if_neg hc3]; first | done | exact f17)), (by unfold own_adv_column; first | exact f18 | (simp only [if_pos hc1, if_neg hc3]; first | done | exact f18)), (by unfold own_adv_afterCarriageReturn; first | exact fw15 | (simp only [if_pos hc1, if_neg hc3]; first | done | exact fw15))⟩
  ·
    refine own_go (B := s₁.setTop (mkF m 39 #[.val (.ref a), .val (.int p1)] [(.int (13 : Int32)), (.int p1)])) (fun tgt cont => ?_) ?_
    · refine XS.icmpYes X0.here hx rfl (pc0 := 3) (pc' := 36) rfl (hb hby d6_3) rfl (XT.ii_ne_t hc1) (by decide) (by decide) ?_
      refine XS.iloadN X0.here hx rfl (hb hby d6_36) rfl ?_
      refine XT.bipushV X0.here hx rfl (13 : Int32) (hb hby d6_37) rfl ?_
      exact cont
    by_cases hc19 : p1 = (13 : Int32)
    ·
      refine own_go (B := s₁.setTop (mkF m 44 #[.val (.ref a), .val (.int p1)] [(.ref a), (.ref a)])) (fun tgt cont => ?_) ?_
      · refine XS.icmpNo X0.here hx rfl (hb hby d6_39) rfl (XT.ii_ne_f hc19) ?_
        refine XS.aloadN X0.here hx rfl (hb hby d6_42) rfl rfl ?_
        refine XS.dup X0.here hx rfl (hb hby d6_43) rfl rfl ?_
        exact cont
      obtain ⟨T20, X20, e20, st20⟩ := getF X0 hx hZ hown (host := "") (Or.inl (hw _ (List.mem_of_getElem? (i := 13) rfl))) Via.refl e0 F_a_line (g := (mkF m 44 #[.val (.ref a), .val (.int p1)] [(.ref a), (.ref a)])) rfl rfl (hb hby d6_44)
      refine own_go (fun tgt cont => st20 tgt cont) ?_
      show own_Go p e below s (Q_rm6 Z a p1 u_l u_c u_r h0 n0) 0 0 (T20.setTop (mkF m 47 #[.val (.ref a), .val (.int p1)] [(.long u_l), (.ref a)]))
      refine own_go (B := T20.setTop (mkF m 49 #[.val (.ref a), .val (.int p1)] [(.long (u_l + (1 : Int64))), (.ref a)])) (fun tgt cont => ?_) ?_
      · refine XT.lconstV X20.here hx rfl (1 : Int64) (hb hby d6_47) rfl ?_
        refine XS.ladd X20.here hx rfl (hb hby d6_48) rfl ?_
        exact cont
      obtain ⟨T21, h21, X21, e21, W21, st21⟩ := putF X20 hx hZ hown (host := "") (Or.inl (hw _ (List.mem_of_getElem? (i := 13) rfl))) Via.refl e20 F_a_line E_a (Or.inl (hw _ (List.mem_of_getElem? (i := 14) rfl))) (hw _ (List.mem_of_getElem? (i := 5) rfl)) (ty := .long) (by decide) rfl rfl (g := (mkF m 49 #[.val (.ref a), .val (.int p1)] [(.long (u_l + (1 : Int64))), (.ref a)])) rfl rfl (hb hby d6_49)
      have fw21 := F_a_line.same W21
      have N21 := Fr.snoc X21 N0 g_a
      have kk21 : Keep h0 h21 [a] := (Keep.refl h0 [a]).wr W21 (Or.inl (List.mem_of_getElem? (i := 0) rfl))
      have zp21 : n0 ≤ h21.size := Nat.le_trans Z0 kk21.1
      refine own_go (fun tgt cont => st21 tgt cont) ?_
      show own_Go p e below s (Q_rm6 Z a p1 u_l u_c u_r h0 n0) 0 0 (T21.setTop (mkF m 52 #[.val (.ref a), .val (.int p1)] []))
      refine own_go (B := T21.setTop (mkF m 54 #[.val (.ref a), .val (.int p1)] [(.long (1 : Int64)), (.ref a)])) (fun tgt cont => ?_) ?_
      · refine XS.aloadN X21.here hx rfl (hb hby d6_52) rfl rfl ?_
        refine XT.lconstV X21.here hx rfl (1 : Int64) (hb hby d6_53) rfl ?_
        exact cont
      have f23 := (F_a_column.other W21 (Or.inr (slot_ne (t := .long) (t' := .long) (Or.inl (hw _ (List.mem_of_getElem? (i := 16) rfl))) (Or.inl (hw _ (List.mem_of_getElem? (i := 14) rfl))) (by decide) (by decide) (by decide))))
      have f24 := (E_a.wr W21)
      obtain ⟨T22, h22, X22, e22, W22, st22⟩ := putF X21 hx hZ hown (host := "") (Or.inl (hw _ (List.mem_of_getElem? (i := 15) rfl))) Via.refl e21 f23 f24 (Or.inl (hw _ (List.mem_of_getElem? (i := 16) rfl))) (hw _ (List.mem_of_getElem? (i := 5) rfl)) (ty := .long) (by decide) rfl rfl (g := (mkF m 54 #[.val (.ref a), .val (.int p1)] [(.long (1 : Int64)), (.ref a)])) rfl rfl (hb hby d6_54)
      have fw22 := f23.same W22
      have N22 := Fr.snoc X22 N21 g_a
      have kk22 : Keep h0 h22 [a] := kk21.wr W22 (Or.inl (List.mem_of_getElem? (i := 0) rfl))
      have zp22 : n0 ≤ h22.size := Nat.le_trans Z0 kk22.1
      refine own_go (fun tgt cont => st22 tgt cont) ?_
      show own_Go p e below s (Q_rm6 Z a p1 u_l u_c u_r h0 n0) 0 0 (T22.setTop (mkF m 57 #[.val (.ref a), .val (.int p1)] []))
      refine own_go (B := T22.setTop (mkF m 59 #[.val (.ref a), .val (.int p1)] [(.int (1 : Int32)), (.ref a)])) (fun tgt cont => ?_) ?_
      · refine XS.aloadN X22.here hx rfl (hb hby d6_57) rfl rfl ?_
        refine XT.iconstV X22.here hx rfl (1 : Int32) (hb hby d6_58) rfl ?_
        exact cont
      have f26 := ((F_a_afterCarriageReturn.other W21 (Or.inr (slot_ne (t := .boolean) (t' := .long) (Or.inl (hw _ (List.mem_of_getElem? (i := 33) rfl))) (Or.inl (hw _ (List.mem_of_getElem? (i := 14) rfl))) (by decide) (by decide) (by decide)))).other W22 (Or.inr (slot_ne (t := .boolean) (t' := .long) (Or.inl (hw _ (List.mem_of_getElem? (i := 33) rfl))) (Or.inl (hw _ (List.mem_of_getElem? (i := 16) rfl))) (by decide) (by decide) (by decide))))
      have f27 := (f24.wr W22)
      obtain ⟨T25, h25, X25, e25, W25, st25⟩ := putFN X22 hx hZ hown (hw _ (List.mem_of_getElem? (i := 32) rfl)) Via.refl e22 f26 f27 (Or.inl (hw _ (List.mem_of_getElem? (i := 33) rfl))) (hw _ (List.mem_of_getElem? (i := 5) rfl)) (ty := .boolean) (v' := (.int (1 : Int32))) (by decide) rfl rfl (g := (mkF m 59 #[.val (.ref a), .val (.int p1)] [(.int (1 : Int32)), (.ref a)])) rfl rfl (hb hby d6_59)
      have fw25 := f26.same W25
      have N25 := Fr.snoc X25 N22 g_a
      have kk25 : Keep h0 h25 [a] := kk22.wr W25 (Or.inl (List.mem_of_getElem? (i := 0) rfl))
      have zp25 : n0 ≤ h25.size := Nat.le_trans Z0 kk25.1
      refine own_go (fun tgt cont => st25 tgt cont) ?_
      show own_Go p e below s (Q_rm6 Z a p1 u_l u_c u_r h0 n0) 0 0 (T25.setTop (mkF m 62 #[.val (.ref a), .val (.int p1)] []))
      refine own_go (B := T25.setTop (mkF m 80 #[.val (.ref a), .val (.int p1)] [])) (fun tgt cont => ?_) ?_
      · refine XS.goto X25.here hx rfl (pc0 := 62) (pc' := 80) rfl (hb hby d6_62) (by decide) (by decide) ?_
        exact cont
      refine own_end X25 (v := none) (fun _ => rfl) hlk ?_ (by decide) (by decide) (fun fs hl => X25.returnOut hx Bd.returns (hb hby d6_80) hl)
      have f28 := (f27.wr W25)
      have f29 := ((fw21.other W22 (Or.inr (slot_ne (t := .long) (t' := .long) (Or.inl (hw _ (List.mem_of_getElem? (i := 14) rfl))) (Or.inl (hw _ (List.mem_of_getElem? (i := 16) rfl))) (by decide) (by decide) (by decide)))).other W25 (Or.inr (slot_ne (t := .long) (t' := .boolean) (Or.inl (hw _ (List.mem_of_getElem? (i := 14) rfl))) (Or.inl (hw _ (List.mem_of_getElem? (i := 33) rfl))) (by decide) (by decide) (by decide))))
      have f30 := (fw22.other W25 (Or.inr (slot_ne (t := .long) (t' := .boolean) (Or.inl (hw _ (List.mem_of_getElem? (i := 16) rfl))) (Or.inl (hw _ (List.mem_of_getElem? (i := 33) rfl))) (by decide) (by decide) (by decide))))
      rw [e25]
      exact ⟨rfl, N25, kk25, f28, (by unfold own_adv_line; first | exact f29 | (simp only [if_neg hc1, if_pos hc19]; first | done | exact f29)), (by unfold own_adv_column; first | exact f30 | (simp only [if_neg hc1, if_pos hc19]; first | done | exact f30)), (by unfold own_adv_afterCarriageReturn; first | exact fw25 | (simp only [if_neg hc1, if_pos hc19]; first | done | exact fw25))⟩
    ·
      refine own_go (B := s₁.setTop (mkF m 67 #[.val (.ref a), .val (.int p1)] [(.ref a), (.ref a)])) (fun tgt cont => ?_) ?_
      · refine XS.icmpYes X0.here hx rfl (pc0 := 39) (pc' := 65) rfl (hb hby d6_39) rfl (XT.ii_ne_t hc19) (by decide) (by decide) ?_
        refine XS.aloadN X0.here hx rfl (hb hby d6_65) rfl rfl ?_
        refine XS.dup X0.here hx rfl (hb hby d6_66) rfl rfl ?_
        exact cont
      obtain ⟨T31, X31, e31, st31⟩ := getF X0 hx hZ hown (host := "") (Or.inl (hw _ (List.mem_of_getElem? (i := 15) rfl))) Via.refl e0 F_a_column (g := (mkF m 67 #[.val (.ref a), .val (.int p1)] [(.ref a), (.ref a)])) rfl rfl (hb hby d6_67)
      refine own_go (fun tgt cont => st31 tgt cont) ?_
      show own_Go p e below s (Q_rm6 Z a p1 u_l u_c u_r h0 n0) 0 0 (T31.setTop (mkF m 70 #[.val (.ref a), .val (.int p1)] [(.long u_c), (.ref a)]))
      refine own_go (B := T31.setTop (mkF m 72 #[.val (.ref a), .val (.int p1)] [(.long (u_c + (1 : Int64))), (.ref a)])) (fun tgt cont => ?_) ?_
      · refine XT.lconstV X31.here hx rfl (1 : Int64) (hb hby d6_70) rfl ?_
        refine XS.ladd X31.here hx rfl (hb hby d6_71) rfl ?_
        exact cont
      obtain ⟨T32, h32, X32, e32, W32, st32⟩ := putF X31 hx hZ hown (host := "") (Or.inl (hw _ (List.mem_of_getElem? (i := 15) rfl))) Via.refl e31 F_a_column E_a (Or.inl (hw _ (List.mem_of_getElem? (i := 16) rfl))) (hw _ (List.mem_of_getElem? (i := 5) rfl)) (ty := .long) (by decide) rfl rfl (g := (mkF m 72 #[.val (.ref a), .val (.int p1)] [(.long (u_c + (1 : Int64))), (.ref a)])) rfl rfl (hb hby d6_72)
      have fw32 := F_a_column.same W32
      have N32 := Fr.snoc X32 N0 g_a
      have kk32 : Keep h0 h32 [a] := (Keep.refl h0 [a]).wr W32 (Or.inl (List.mem_of_getElem? (i := 0) rfl))
      have zp32 : n0 ≤ h32.size := Nat.le_trans Z0 kk32.1
      refine own_go (fun tgt cont => st32 tgt cont) ?_
      show own_Go p e below s (Q_rm6 Z a p1 u_l u_c u_r h0 n0) 0 0 (T32.setTop (mkF m 75 #[.val (.ref a), .val (.int p1)] []))
      refine own_go (B := T32.setTop (mkF m 77 #[.val (.ref a), .val (.int p1)] [(.int (0 : Int32)), (.ref a)])) (fun tgt cont => ?_) ?_
      · refine XS.aloadN X32.here hx rfl (hb hby d6_75) rfl rfl ?_
        refine XT.iconstV X32.here hx rfl (0 : Int32) (hb hby d6_76) rfl ?_
        exact cont
      have f34 := (F_a_afterCarriageReturn.other W32 (Or.inr (slot_ne (t := .boolean) (t' := .long) (Or.inl (hw _ (List.mem_of_getElem? (i := 33) rfl))) (Or.inl (hw _ (List.mem_of_getElem? (i := 16) rfl))) (by decide) (by decide) (by decide))))
      have f35 := (E_a.wr W32)
      obtain ⟨T33, h33, X33, e33, W33, st33⟩ := putFN X32 hx hZ hown (hw _ (List.mem_of_getElem? (i := 32) rfl)) Via.refl e32 f34 f35 (Or.inl (hw _ (List.mem_of_getElem? (i := 33) rfl))) (hw _ (List.mem_of_getElem? (i := 5) rfl)) (ty := .boolean) (v' := (.int (0 : Int32))) (by decide) rfl rfl (g := (mkF m 77 #[.val (.ref a), .val (.int p1)] [(.int (0 : Int32)), (.ref a)])) rfl rfl (hb hby d6_77)
      have fw33 := f34.same W33
      have N33 := Fr.snoc X33 N32 g_a
      have kk33 : Keep h0 h33 [a] := kk32.wr W33 (Or.inl (List.mem_of_getElem? (i := 0) rfl))
      have zp33 : n0 ≤ h33.size := Nat.le_trans Z0 kk33.1
      refine own_go (fun tgt cont => st33 tgt cont) ?_
      show own_Go p e below s (Q_rm6 Z a p1 u_l u_c u_r h0 n0) 0 0 (T33.setTop (mkF m 80 #[.val (.ref a), .val (.int p1)] []))
      refine own_end X33 (v := none) (fun _ => rfl) hlk ?_ (by decide) (by decide) (fun fs hl => X33.returnOut hx Bd.returns (hb hby d6_80) hl)
      have f36 := (f35.wr W33)
      have f37 := ((F_a_line.other W32 (Or.inr (slot_ne (t := .long) (t' := .long) (Or.inl (hw _ (List.mem_of_getElem? (i := 14) rfl))) (Or.inl (hw _ (List.mem_of_getElem? (i := 16) rfl))) (by decide) (by decide) (by decide)))).other W33 (Or.inr (slot_ne (t := .long) (t' := .boolean) (Or.inl (hw _ (List.mem_of_getElem? (i := 14) rfl))) (Or.inl (hw _ (List.mem_of_getElem? (i := 33) rfl))) (by decide) (by decide) (by decide))))
      have f38 := (fw32.other W33 (Or.inr (slot_ne (t := .long) (t' := .boolean) (Or.inl (hw _ (List.mem_of_getElem? (i := 16) rfl))) (Or.inl (hw _ (List.mem_of_getElem? (i := 33) rfl))) (by decide) (by decide) (by decide))))
      rw [e33]
      exact ⟨rfl, N33, kk33, f36, (by unfold own_adv_line; first | exact f37 | (simp only [if_neg hc1, if_neg hc19]; first | done | exact f37)), (by unfold own_adv_column; first | exact f38 | (simp only [if_neg hc1, if_neg hc19]; first | done | exact f38)), (by unfold own_adv_afterCarriageReturn; first | exact fw33 | (simp only [if_neg hc1, if_neg hc19]; first | done | exact fw33))⟩
def Q0 (n0 : Nat) (v : Option Value) (h : Heap) (L : List Loc) : Prop := v = some (.int (1 : Int32)) ∧ Fr n0 L
theorem own_pd0 : parseMethodDescriptor "(I)I" = some ⟨[.int], some .int⟩ := by decide +kernel
theorem own_pd1 : parseMethodDescriptor "()V" = some ⟨[], none⟩ := by decide +kernel
theorem own_pd2 : parseMethodDescriptor "()J" = some ⟨[], some .long⟩ := by decide +kernel
theorem own_pd3 : parseMethodDescriptor "(I)V" = some ⟨[.int], none⟩ := by decide +kernel
theorem own_pd4 : parseMethodDescriptor "(I)Z" = some ⟨[.int], some .boolean⟩ := by decide +kernel
theorem own_eq0 (r2 : Int32)  : ((own_adv_line r2 (1 : Int64) (0 : Int32))) = (((1 : Int64) + ((if ((own_eol r2)) = 0 then (0 : Int64) else (1 : Int64))))) := by
  by_cases ar2 : r2 = (10 : Int32) <;> by_cases br2 : r2 = (13 : Int32) <;> simp_all [own_adv_line, own_adv_column, own_adv_afterCarriageReturn, own_eol, own_brk]
theorem own_eq1 (r2 : Int32)  : ((own_adv_column r2 (1 : Int64) (0 : Int32))) = ((if ((own_eol r2)) = 0 then (2 : Int64) else (1 : Int64))) := by
  by_cases ar2 : r2 = (10 : Int32) <;> by_cases br2 : r2 = (13 : Int32) <;> simp_all [own_adv_line, own_adv_column, own_adv_afterCarriageReturn, own_eol, own_brk]
theorem own_pd5 : parseMethodDescriptor "(II)J" = some ⟨[.int, .int], some .long⟩ := by decide +kernel
theorem own_eq2 (r4 : Int32) (r2 : Int32)  : ((own_adv_line r4 ((own_adv_line r2 (1 : Int64) (0 : Int32))) ((own_adv_afterCarriageReturn r2)))) = (((((1 : Int64) + ((if ((own_eol r2)) = 0 then (0 : Int64) else (1 : Int64))))) + ((own_brk r2 r4)))) := by
  by_cases ar4 : r4 = (10 : Int32) <;> by_cases br4 : r4 = (13 : Int32) <;> by_cases ar2 : r2 = (10 : Int32) <;> by_cases br2 : r2 = (13 : Int32) <;> simp_all [own_adv_line, own_adv_column, own_adv_afterCarriageReturn, own_eol, own_brk]
theorem own_eq3 (r4 : Int32) (r2 : Int32)  : ((own_adv_column r4 ((own_adv_column r2 (1 : Int64) (0 : Int32))) ((own_adv_afterCarriageReturn r2)))) = ((if ((own_eol r4)) = 0 then (if ((own_eol r2)) = 0 then (3 : Int64) else (2 : Int64)) else (1 : Int64))) := by
  by_cases ar4 : r4 = (10 : Int32) <;> by_cases br4 : r4 = (13 : Int32) <;> by_cases ar2 : r2 = (10 : Int32) <;> by_cases br2 : r2 = (13 : Int32) <;> simp_all [own_adv_line, own_adv_column, own_adv_afterCarriageReturn, own_eol, own_brk]
theorem own_eq4 (r6 : Int32) (r4 : Int32) (r2 : Int32)  : ((own_adv_line r6 ((own_adv_line r4 ((own_adv_line r2 (1 : Int64) (0 : Int32))) ((own_adv_afterCarriageReturn r2)))) ((own_adv_afterCarriageReturn r4)))) = (((((((1 : Int64) + ((if ((own_eol r2)) = 0 then (0 : Int64) else (1 : Int64))))) + ((own_brk r2 r4)))) + ((own_brk r4 r6)))) := by
  by_cases ar6 : r6 = (10 : Int32) <;> by_cases br6 : r6 = (13 : Int32) <;> by_cases ar4 : r4 = (10 : Int32) <;> by_cases br4 : r4 = (13 : Int32) <;> by_cases ar2 : r2 = (10 : Int32) <;> by_cases br2 : r2 = (13 : Int32) <;> simp_all [own_adv_line, own_adv_column, own_adv_afterCarriageReturn, own_eol, own_brk]
theorem own_eq5 (r6 : Int32) (r4 : Int32) (r2 : Int32)  : ((own_adv_column r6 ((own_adv_column r4 ((own_adv_column r2 (1 : Int64) (0 : Int32))) ((own_adv_afterCarriageReturn r2)))) ((own_adv_afterCarriageReturn r4)))) = ((if ((own_eol r6)) = 0 then (if ((own_eol r4)) = 0 then (if ((own_eol r2)) = 0 then (4 : Int64) else (3 : Int64)) else (2 : Int64)) else (1 : Int64))) := by
  by_cases ar6 : r6 = (10 : Int32) <;> by_cases br6 : r6 = (13 : Int32) <;> by_cases ar4 : r4 = (10 : Int32) <;> by_cases br4 : r4 = (13 : Int32) <;> by_cases ar2 : r2 = (10 : Int32) <;> by_cases br2 : r2 = (13 : Int32) <;> simp_all [own_adv_line, own_adv_column, own_adv_afterCarriageReturn, own_eol, own_brk]
theorem own_eq6 (r8 : Int32) (r6 : Int32) (r4 : Int32) (r2 : Int32)  : ((own_adv_line r8 ((own_adv_line r6 ((own_adv_line r4 ((own_adv_line r2 (1 : Int64) (0 : Int32))) ((own_adv_afterCarriageReturn r2)))) ((own_adv_afterCarriageReturn r4)))) ((own_adv_afterCarriageReturn r6)))) = (((((((((1 : Int64) + ((if ((own_eol r2)) = 0 then (0 : Int64) else (1 : Int64))))) + ((own_brk r2 r4)))) + ((own_brk r4 r6)))) + ((own_brk r6 r8)))) := by
  by_cases ar8 : r8 = (10 : Int32) <;> by_cases br8 : r8 = (13 : Int32) <;> by_cases ar6 : r6 = (10 : Int32) <;> by_cases br6 : r6 = (13 : Int32) <;> by_cases ar4 : r4 = (10 : Int32) <;> by_cases br4 : r4 = (13 : Int32) <;> by_cases ar2 : r2 = (10 : Int32) <;> by_cases br2 : r2 = (13 : Int32) <;> simp_all [own_adv_line, own_adv_column, own_adv_afterCarriageReturn, own_eol, own_brk]
theorem own_eq7 (r8 : Int32) (r6 : Int32) (r4 : Int32) (r2 : Int32)  : ((own_adv_column r8 ((own_adv_column r6 ((own_adv_column r4 ((own_adv_column r2 (1 : Int64) (0 : Int32))) ((own_adv_afterCarriageReturn r2)))) ((own_adv_afterCarriageReturn r4)))) ((own_adv_afterCarriageReturn r6)))) = ((if ((own_eol r8)) = 0 then (if ((own_eol r6)) = 0 then (if ((own_eol r4)) = 0 then (if ((own_eol r2)) = 0 then (5 : Int64) else (4 : Int64)) else (3 : Int64)) else (2 : Int64)) else (1 : Int64))) := by
  by_cases ar8 : r8 = (10 : Int32) <;> by_cases br8 : r8 = (13 : Int32) <;> by_cases ar6 : r6 = (10 : Int32) <;> by_cases br6 : r6 = (13 : Int32) <;> by_cases ar4 : r4 = (10 : Int32) <;> by_cases br4 : r4 = (13 : Int32) <;> by_cases ar2 : r2 = (10 : Int32) <;> by_cases br2 : r2 = (13 : Int32) <;> simp_all [own_adv_line, own_adv_column, own_adv_afterCarriageReturn, own_eol, own_brk]
set_option maxRecDepth 65536 in
set_option maxHeartbeats 40000000 in
theorem rm0 (l : Launch) (Z : State) (a0 : Array Value) (hw : ∀ d ∈ tables_1, d.before a0 Z = true) (ws : List Jvm.Cond) (p1 : Int32) (p2 : Int32) (p3 : Int32) (p4 : Int32) (h0 : Heap) (n0 : Nat) (Z0 : n0 ≤ h0.size)  :
    MetFree l x (head1 (Jvm.Cond.code x code maxLocals ret :: ws) room_1) (fun aa U => aa = #[(.int p1), (.int p2), (.int p3), (.int p4)] ∧ Z.Warmed39 U.vm ∧ U.heap = h0) (fun _ _ _ _ _ => True) (fun _ U o U' => ∃ v L, o = .returned v ∧ Q0 n0 v U'.heap L ∧ FrameEnd U o U' L room_1.cells room_1.slots) := by
  refine MetFree.of_bodySF (plainFor_of_name own_pn0) hisR ?_
  intro p e s m args below meth c s₁ Bd hml0 hP hK
  obtain ⟨rfl, hZ, hh⟩ := hP
  have hx := Bd.exec
  have hby := Bd.bytes
  have hml : c.maxLocals = 26 := hml0
  have hlk : meth.locks = false := BodyLoose.notSynchronized Bd
  have hown : s.vm.findClass "com/example/pandect/pandect/text/TextPositionAdvancePinLaw" = some m.cls := findClass_of_methodNamed Bd.named
  have hnm := (name_of_methodNamed Bd.named Bd.method).1
  have X0 : Stand p l e room_1 s m #[(.int p1), (.int p2), (.int p3), (.int p4)] below meth c s₁ [] 0 0 := Stand.of_body Bd
  have e0 : s₁.heap = h0 := by rw [← hh, Bd.state]; rfl
  have N0 := Fr.nil n0
  show own_Go p e below s (Q0 n0) room_1.cells room_1.slots (s₁.setTop (entryFrame m #[(.int p1), (.int p2), (.int p3), (.int p4)] maxLocals))
  refine own_go (B := s₁.setTop (mkF m 0 #[.val (.int p1), .val (.int p2), .val (.int p3), .val (.int p4), .unset, .unset, .unset, .unset, .unset, .unset, .unset, .unset, .unset, .unset, .unset, .unset, .unset, .unset, .unset, .unset, .unset, .unset, .unset, .unset, .unset, .unset] [])) (fun tgt cont => (XT.entry rfl).trans cont) ?_
  refine own_go (B := s₁.setTop (mkF m 1 #[.val (.int p1), .val (.int p2), .val (.int p3), .val (.int p4), .unset, .unset, .unset, .unset, .unset, .unset, .unset, .unset, .unset, .unset, .unset, .unset, .unset, .unset, .unset, .unset, .unset, .unset, .unset, .unset, .unset, .unset] [(.int p1)])) (fun tgt cont => ?_) ?_
  · refine XS.iloadN X0.here hx rfl (hb hby at_0) rfl ?_
    exact cont
  -- pc 1: TextPositionAdvancePinLaw.cp
  obtain ⟨_, _, ⟨T1, L1, k1, n1⟩, -, X1, ⟨Lc1, hQ1, l1, y1, z1⟩, st1⟩ := Jvm.LawKit.callS X0 hx (y := (⟨"com/example/pandect/pandect/text/TextPositionAdvancePinLaw", "cp", "(I)I"⟩ : MethodName)) hown (mvT hZ (hw _ (List.mem_of_getElem? (i := 0) rfl))) (mvT hZ (hw _ (List.mem_of_getElem? (i := 1) rfl))) (mvT hZ (hw _ (List.mem_of_getElem? (i := 2) rfl))) (mvT hZ (hw _ (List.mem_of_getElem? (i := 3) rfl))) (by decide) (backOf (W := 0) (rm1 l Z a0 hw [] p1 h0 n0 Z0 ) hZ (hw _ (List.mem_of_getElem? (i := 3) rfl)) (hw _ (List.mem_of_getElem? (i := 2) rfl)) (by decide) (by decide)) (g := (mkF m 1 #[.val (.int p1), .val (.int p2), .val (.int p3), .val (.int p4), .unset, .unset, .unset, .unset, .unset, .unset, .unset, .unset, .unset, .unset, .unset, .unset, .unset, .unset, .unset, .unset, .unset, .unset, .unset, .unset, .unset, .unset] [(.int p1)])) rfl (by rw [hml]; rfl) (argsL := [(.int p1)]) (rest := []) (lenOf own_pd0 rfl) rfl (by show 2 * 0 + _ ≤ _; exact Nat.le_of_eq rfl) (hb hby at_1) (fun _ _ => ⟨rfl, e0, (by decide : 0 + 0 ≤ _), (by decide : 0 + 0 ≤ _)⟩)
  dsimp only [Pt.U, Pt.locs, Pt.cells, Pt.slots] at X1 l1 y1 z1 st1 hQ1
  subst l1 y1 z1
  obtain ⟨rfl, N1q, e1⟩ := hQ1
  have N1 := Fr.app N0 N1q
  refine own_go (fun tgt cont => st1 tgt cont) ?_
  show own_Go p e below s (Q0 n0) room_1.cells room_1.slots (T1.setTop (mkF m 4 #[.val (.int p1), .val (.int p2), .val (.int p3), .val (.int p4), .unset, .unset, .unset, .unset, .unset, .unset, .unset, .unset, .unset, .unset, .unset, .unset, .unset, .unset, .unset, .unset, .unset, .unset, .unset, .unset, .unset, .unset] [(.int (own_cp p1))]))
  generalize hr2 : (own_cp p1) = r2
  refine own_go (B := T1.setTop (mkF m 7 #[.val (.int p1), .val (.int p2), .val (.int p3), .val (.int p4), .val (.int r2), .unset, .unset, .unset, .unset, .unset, .unset, .unset, .unset, .unset, .unset, .unset, .unset, .unset, .unset, .unset, .unset, .unset, .unset, .unset, .unset, .unset] [(.int p2)])) (fun tgt cont => ?_) ?_
  · refine XS.istore X1.here hx rfl (hb hby at_4) rfl (l' := #[.val (.int p1), .val (.int p2), .val (.int p3), .val (.int p4), .val (.int r2), .unset, .unset, .unset, .unset, .unset, .unset, .unset, .unset, .unset, .unset, .unset, .unset, .unset, .unset, .unset, .unset, .unset, .unset, .unset, .unset, .unset]) rfl ?_
    refine XS.iloadN X1.here hx rfl (hb hby at_6) rfl ?_
    exact cont
  -- pc 7: TextPositionAdvancePinLaw.cp
  obtain ⟨_, _, ⟨T3, L3, k3, n3⟩, -, X3, ⟨Lc3, hQ3, l3, y3, z3⟩, st3⟩ := Jvm.LawKit.callS X1 hx (y := (⟨"com/example/pandect/pandect/text/TextPositionAdvancePinLaw", "cp", "(I)I"⟩ : MethodName)) hown (mvT hZ (hw _ (List.mem_of_getElem? (i := 0) rfl))) (mvT hZ (hw _ (List.mem_of_getElem? (i := 1) rfl))) (mvT hZ (hw _ (List.mem_of_getElem? (i := 2) rfl))) (mvT hZ (hw _ (List.mem_of_getElem? (i := 3) rfl))) (by decide) (backOf (W := 0) (rm1 l Z a0 hw [] p2 h0 n0 Z0 ) hZ (hw _ (List.mem_of_getElem? (i := 3) rfl)) (hw _ (List.mem_of_getElem? (i := 2) rfl)) (by decide) (by decide)) (g := (mkF m 7 #[.val (.int p1), .val (.int p2), .val (.int p3), .val (.int p4), .val (.int r2), .unset, .unset, .unset, .unset, .unset, .unset, .unset, .unset, .unset, .unset, .unset, .unset, .unset, .unset, .unset, .unset, .unset, .unset, .unset, .unset, .unset] [(.int p2)])) rfl (by rw [hml]; rfl) (argsL := [(.int p2)]) (rest := []) (lenOf own_pd0 rfl) rfl (by show 2 * 0 + _ ≤ _; exact Nat.le_of_eq rfl) (hb hby at_7) (fun _ _ => ⟨rfl, e1, (by decide : 0 + 0 + 0 ≤ _), (by decide : 0 + 0 + 0 ≤ _)⟩)
  dsimp only [Pt.U, Pt.locs, Pt.cells, Pt.slots] at X3 l3 y3 z3 st3 hQ3
  subst l3 y3 z3
  obtain ⟨rfl, N3q, e3⟩ := hQ3
  have N3 := Fr.app N1 N3q
  refine own_go (fun tgt cont => st3 tgt cont) ?_
  show own_Go p e below s (Q0 n0) room_1.cells room_1.slots (T3.setTop (mkF m 10 #[.val (.int p1), .val (.int p2), .val (.int p3), .val (.int p4), .val (.int r2), .unset, .unset, .unset, .unset, .unset, .unset, .unset, .unset, .unset, .unset, .unset, .unset, .unset, .unset, .unset, .unset, .unset, .unset, .unset, .unset, .unset] [(.int (own_cp p2))]))
  generalize hr4 : (own_cp p2) = r4
  refine own_go (B := T3.setTop (mkF m 13 #[.val (.int p1), .val (.int p2), .val (.int p3), .val (.int p4), .val (.int r2), .val (.int r4), .unset, .unset, .unset, .unset, .unset, .unset, .unset, .unset, .unset, .unset, .unset, .unset, .unset, .unset, .unset, .unset, .unset, .unset, .unset, .unset] [(.int p3)])) (fun tgt cont => ?_) ?_
  · refine XS.istore X3.here hx rfl (hb hby at_10) rfl (l' := #[.val (.int p1), .val (.int p2), .val (.int p3), .val (.int p4), .val (.int r2), .val (.int r4), .unset, .unset, .unset, .unset, .unset, .unset, .unset, .unset, .unset, .unset, .unset, .unset, .unset, .unset, .unset, .unset, .unset, .unset, .unset, .unset]) rfl ?_
    refine XS.iloadN X3.here hx rfl (hb hby at_12) rfl ?_
    exact cont
  -- pc 13: TextPositionAdvancePinLaw.cp
  obtain ⟨_, _, ⟨T5, L5, k5, n5⟩, -, X5, ⟨Lc5, hQ5, l5, y5, z5⟩, st5⟩ := Jvm.LawKit.callS X3 hx (y := (⟨"com/example/pandect/pandect/text/TextPositionAdvancePinLaw", "cp", "(I)I"⟩ : MethodName)) hown (mvT hZ (hw _ (List.mem_of_getElem? (i := 0) rfl))) (mvT hZ (hw _ (List.mem_of_getElem? (i := 1) rfl))) (mvT hZ (hw _ (List.mem_of_getElem? (i := 2) rfl))) (mvT hZ (hw _ (List.mem_of_getElem? (i := 3) rfl))) (by decide) (backOf (W := 0) (rm1 l Z a0 hw [] p3 h0 n0 Z0 ) hZ (hw _ (List.mem_of_getElem? (i := 3) rfl)) (hw _ (List.mem_of_getElem? (i := 2) rfl)) (by decide) (by decide)) (g := (mkF m 13 #[.val (.int p1), .val (.int p2), .val (.int p3), .val (.int p4), .val (.int r2), .val (.int r4), .unset, .unset, .unset, .unset, .unset, .unset, .unset, .unset, .unset, .unset, .unset, .unset, .unset, .unset, .unset, .unset, .unset, .unset, .unset, .unset] [(.int p3)])) rfl (by rw [hml]; rfl) (argsL := [(.int p3)]) (rest := []) (lenOf own_pd0 rfl) rfl (by show 2 * 0 + _ ≤ _; exact Nat.le_of_eq rfl) (hb hby at_13) (fun _ _ => ⟨rfl, e3, (by decide : 0 + 0 + 0 + 0 ≤ _), (by decide : 0 + 0 + 0 + 0 ≤ _)⟩)
  dsimp only [Pt.U, Pt.locs, Pt.cells, Pt.slots] at X5 l5 y5 z5 st5 hQ5
  subst l5 y5 z5
  obtain ⟨rfl, N5q, e5⟩ := hQ5
  have N5 := Fr.app N3 N5q
  refine own_go (fun tgt cont => st5 tgt cont) ?_
  show own_Go p e below s (Q0 n0) room_1.cells room_1.slots (T5.setTop (mkF m 16 #[.val (.int p1), .val (.int p2), .val (.int p3), .val (.int p4), .val (.int r2), .val (.int r4), .unset, .unset, .unset, .unset, .unset, .unset, .unset, .unset, .unset, .unset, .unset, .unset, .unset, .unset, .unset, .unset, .unset, .unset, .unset, .unset] [(.int (own_cp p3))]))
  generalize hr6 : (own_cp p3) = r6
  refine own_go (B := T5.setTop (mkF m 19 #[.val (.int p1), .val (.int p2), .val (.int p3), .val (.int p4), .val (.int r2), .val (.int r4), .val (.int r6), .unset, .unset, .unset, .unset, .unset, .unset, .unset, .unset, .unset, .unset, .unset, .unset, .unset, .unset, .unset, .unset, .unset, .unset, .unset] [(.int p4)])) (fun tgt cont => ?_) ?_
  · refine XS.istore X5.here hx rfl (hb hby at_16) rfl (l' := #[.val (.int p1), .val (.int p2), .val (.int p3), .val (.int p4), .val (.int r2), .val (.int r4), .val (.int r6), .unset, .unset, .unset, .unset, .unset, .unset, .unset, .unset, .unset, .unset, .unset, .unset, .unset, .unset, .unset, .unset, .unset, .unset, .unset]) rfl ?_
    refine XS.iloadN X5.here hx rfl (hb hby at_18) rfl ?_
    exact cont
  -- pc 19: TextPositionAdvancePinLaw.cp
  obtain ⟨_, _, ⟨T7, L7, k7, n7⟩, -, X7, ⟨Lc7, hQ7, l7, y7, z7⟩, st7⟩ := Jvm.LawKit.callS X5 hx (y := (⟨"com/example/pandect/pandect/text/TextPositionAdvancePinLaw", "cp", "(I)I"⟩ : MethodName)) hown (mvT hZ (hw _ (List.mem_of_getElem? (i := 0) rfl))) (mvT hZ (hw _ (List.mem_of_getElem? (i := 1) rfl))) (mvT hZ (hw _ (List.mem_of_getElem? (i := 2) rfl))) (mvT hZ (hw _ (List.mem_of_getElem? (i := 3) rfl))) (by decide) (backOf (W := 0) (rm1 l Z a0 hw [] p4 h0 n0 Z0 ) hZ (hw _ (List.mem_of_getElem? (i := 3) rfl)) (hw _ (List.mem_of_getElem? (i := 2) rfl)) (by decide) (by decide)) (g := (mkF m 19 #[.val (.int p1), .val (.int p2), .val (.int p3), .val (.int p4), .val (.int r2), .val (.int r4), .val (.int r6), .unset, .unset, .unset, .unset, .unset, .unset, .unset, .unset, .unset, .unset, .unset, .unset, .unset, .unset, .unset, .unset, .unset, .unset, .unset] [(.int p4)])) rfl (by rw [hml]; rfl) (argsL := [(.int p4)]) (rest := []) (lenOf own_pd0 rfl) rfl (by show 2 * 0 + _ ≤ _; exact Nat.le_of_eq rfl) (hb hby at_19) (fun _ _ => ⟨rfl, e5, (by decide : 0 + 0 + 0 + 0 + 0 ≤ _), (by decide : 0 + 0 + 0 + 0 + 0 ≤ _)⟩)
  dsimp only [Pt.U, Pt.locs, Pt.cells, Pt.slots] at X7 l7 y7 z7 st7 hQ7
  subst l7 y7 z7
  obtain ⟨rfl, N7q, e7⟩ := hQ7
  have N7 := Fr.app N5 N7q
  refine own_go (fun tgt cont => st7 tgt cont) ?_
  show own_Go p e below s (Q0 n0) room_1.cells room_1.slots (T7.setTop (mkF m 22 #[.val (.int p1), .val (.int p2), .val (.int p3), .val (.int p4), .val (.int r2), .val (.int r4), .val (.int r6), .unset, .unset, .unset, .unset, .unset, .unset, .unset, .unset, .unset, .unset, .unset, .unset, .unset, .unset, .unset, .unset, .unset, .unset, .unset] [(.int (own_cp p4))]))
  generalize hr8 : (own_cp p4) = r8
  refine own_go (B := T7.setTop (mkF m 24 #[.val (.int p1), .val (.int p2), .val (.int p3), .val (.int p4), .val (.int r2), .val (.int r4), .val (.int r6), .val (.int r8), .unset, .unset, .unset, .unset, .unset, .unset, .unset, .unset, .unset, .unset, .unset, .unset, .unset, .unset, .unset, .unset, .unset, .unset] [])) (fun tgt cont => ?_) ?_
  · refine XS.istore X7.here hx rfl (hb hby at_22) rfl (l' := #[.val (.int p1), .val (.int p2), .val (.int p3), .val (.int p4), .val (.int r2), .val (.int r4), .val (.int r6), .val (.int r8), .unset, .unset, .unset, .unset, .unset, .unset, .unset, .unset, .unset, .unset, .unset, .unset, .unset, .unset, .unset, .unset, .unset, .unset]) rfl ?_
    exact cont
  obtain ⟨T9, h9, X9, e9, E9, A9, D9, -, st9⟩ := newO X7 hx hZ hown (hw _ (List.mem_of_getElem? (i := 4) rfl)) (hw _ (List.mem_of_getElem? (i := 5) rfl)) (hw _ (List.mem_of_getElem? (i := 6) rfl)) e7 (g := (mkF m 24 #[.val (.int p1), .val (.int p2), .val (.int p3), .val (.int p4), .val (.int r2), .val (.int r4), .val (.int r6), .val (.int r8), .unset, .unset, .unset, .unset, .unset, .unset, .unset, .unset, .unset, .unset, .unset, .unset, .unset, .unset, .unset, .unset, .unset, .unset] [])) rfl (hb hby at_24) (by decide) (by decide)
  obtain ⟨b9, g9⟩ : ∃ z, z = h0.size := ⟨_, rfl⟩
  rw [← g9] at A9 D9 st9
  have g_b9 : n0 ≤ b9 := Nat.le_trans Z0 (Nat.le_of_eq g9.symm)
  have sz_b9 : h0.size ≤ b9 := Nat.le_trans (Keep.refl h0 []).1 (Nat.le_of_eq g9.symm)
  have kk9 : Keep h0 h9 [] := (Keep.refl h0 []).ext E9
  have zp9 : n0 ≤ h9.size := Nat.le_trans Z0 kk9.1
  have F_line_b9 : Fld Z h9 b9 "com/example/pandect/pandect/text/TextPosition" "line" "J" (.long (0 : Int64)) := D9 (Or.inl (hw _ (List.mem_of_getElem? (i := 14) rfl))) (ty := .long) (by decide)
  have F_column_b9 : Fld Z h9 b9 "com/example/pandect/pandect/text/TextPosition" "column" "J" (.long (0 : Int64)) := D9 (Or.inl (hw _ (List.mem_of_getElem? (i := 16) rfl))) (ty := .long) (by decide)
  have F_afterCarriageReturn_b9 : Fld Z h9 b9 "com/example/pandect/pandect/text/TextPosition" "afterCarriageReturn" "Z" (.int (0 : Int32)) := D9 (Or.inl (hw _ (List.mem_of_getElem? (i := 33) rfl))) (ty := .boolean) (by decide)
  refine own_go (fun tgt cont => st9 tgt cont) ?_
  show own_Go p e below s (Q0 n0) room_1.cells room_1.slots (T9.setTop (mkF m 27 #[.val (.int p1), .val (.int p2), .val (.int p3), .val (.int p4), .val (.int r2), .val (.int r4), .val (.int r6), .val (.int r8), .unset, .unset, .unset, .unset, .unset, .unset, .unset, .unset, .unset, .unset, .unset, .unset, .unset, .unset, .unset, .unset, .unset, .unset] [(.ref b9)]))
  refine own_go (B := T9.setTop (mkF m 28 #[.val (.int p1), .val (.int p2), .val (.int p3), .val (.int p4), .val (.int r2), .val (.int r4), .val (.int r6), .val (.int r8), .unset, .unset, .unset, .unset, .unset, .unset, .unset, .unset, .unset, .unset, .unset, .unset, .unset, .unset, .unset, .unset, .unset, .unset] [(.ref b9), (.ref b9)])) (fun tgt cont => ?_) ?_
  · refine XS.dup X9.here hx rfl (hb hby at_27) rfl rfl ?_
    exact cont
  -- pc 28: TextPosition.<init>
  obtain ⟨_, _, ⟨T10, L10, k10, n10⟩, -, X10, ⟨Lc10, hQ10, l10, y10, z10⟩, st10⟩ := X9.specialBack hx (y := (⟨"com/example/pandect/pandect/text/TextPosition", "<init>", "()V"⟩ : MethodName)) rfl hown (mvT hZ (hw _ (List.mem_of_getElem? (i := 7) rfl))) (mvT hZ (hw _ (List.mem_of_getElem? (i := 8) rfl))) (mvT hZ (hw _ (List.mem_of_getElem? (i := 9) rfl))) (by decide) (backOf (W := 1) (rm2 l Z a0 hw [] b9 (0 : Int64) (0 : Int64) (0 : Int32) h9 n0 zp9 A9 F_line_b9 F_column_b9 F_afterCarriageReturn_b9 g_b9) hZ (hw _ (List.mem_of_getElem? (i := 9) rfl)) (hw _ (List.mem_of_getElem? (i := 6) rfl)) (by decide) (by decide)) (g := (mkF m 28 #[.val (.int p1), .val (.int p2), .val (.int p3), .val (.int p4), .val (.int r2), .val (.int r4), .val (.int r6), .val (.int r8), .unset, .unset, .unset, .unset, .unset, .unset, .unset, .unset, .unset, .unset, .unset, .unset, .unset, .unset, .unset, .unset, .unset, .unset] [(.ref b9), (.ref b9)])) rfl (by rw [hml]; rfl) (Steps.refl _) (a := b9) (argsL := []) (rest := [(.ref b9)]) (lenOf own_pd1 rfl) rfl (by show 2 * 0 + _ ≤ _; exact Nat.le_of_eq rfl) (hb hby at_28) (fun _ _ => ⟨rfl, e9, (by decide : 0 + 0 + 0 + 0 + 0 + 1 + 0 ≤ _), (by decide : 0 + 0 + 0 + 0 + 0 + 3 + 0 ≤ _)⟩)
  dsimp only [Pt.U, Pt.locs, Pt.cells, Pt.slots] at X10 l10 y10 z10 st10 hQ10
  subst l10 y10 z10
  obtain ⟨rfl, N10q, K10, ex10_0, fa10_0, fa10_1, fa10_2⟩ := hQ10
  have N10 := Fr.app N7 N10q
  have kk10 : Keep h0 T10.heap [] := kk9.trans K10 (allS (Or.inr sz_b9) all0)
  have zp10 : n0 ≤ T10.heap.size := Nat.le_trans Z0 kk10.1
  refine own_go (fun tgt cont => st10.trans cont) ?_
  show own_Go p e below s (Q0 n0) room_1.cells room_1.slots (T10.setTop (mkF m 31 #[.val (.int p1), .val (.int p2), .val (.int p3), .val (.int p4), .val (.int r2), .val (.int r4), .val (.int r6), .val (.int r8), .unset, .unset, .unset, .unset, .unset, .unset, .unset, .unset, .unset, .unset, .unset, .unset, .unset, .unset, .unset, .unset, .unset, .unset] [(.ref b9)]))
  refine own_go (B := T10.setTop (mkF m 35 #[.val (.int p1), .val (.int p2), .val (.int p3), .val (.int p4), .val (.int r2), .val (.int r4), .val (.int r6), .val (.int r8), .val (.ref b9), .unset, .unset, .unset, .unset, .unset, .unset, .unset, .unset, .unset, .unset, .unset, .unset, .unset, .unset, .unset, .unset, .unset] [(.ref b9)])) (fun tgt cont => ?_) ?_
  · refine XS.astore X10.here hx rfl (hb hby at_31) rfl rfl (l' := #[.val (.int p1), .val (.int p2), .val (.int p3), .val (.int p4), .val (.int r2), .val (.int r4), .val (.int r6), .val (.int r8), .val (.ref b9), .unset, .unset, .unset, .unset, .unset, .unset, .unset, .unset, .unset, .unset, .unset, .unset, .unset, .unset, .unset, .unset, .unset]) rfl ?_
    refine XS.aload X10.here hx rfl (hb hby at_33) rfl rfl ?_
    exact cont
  -- pc 35: TextPosition.line
  obtain ⟨cq11, kq11, qa11, qb11, qc11⟩ := isOf hZ rfl ex10_0
  obtain ⟨_, _, ⟨T11, L11, k11, n11⟩, -, X11, ⟨Lc11, hQ11, l11, y11, z11⟩, st11⟩ := X10.virtualBack hx (y := (⟨"com/example/pandect/pandect/text/TextPosition", "line", "()J"⟩ : MethodName)) (z := (⟨"com/example/pandect/pandect/text/TextPosition", "line", "()J"⟩ : MethodName)) hown (mvT hZ (hw _ (List.mem_of_getElem? (i := 17) rfl))) (mvT hZ (hw _ (List.mem_of_getElem? (i := 18) rfl))) (notFace_of_selects (args := #[]) (mvT hZ (hw _ (List.mem_of_getElem? (i := 20) rfl)))) (mvT hZ (hw _ (List.mem_of_getElem? (i := 20) rfl))) (mvT hZ (hw _ (List.mem_of_getElem? (i := 19) rfl))) (by decide) (backOf (W := 0) (rm4 l Z a0 hw [] b9 (1 : Int64) T10.heap n0 zp10 ex10_0 fa10_0) hZ (hw _ (List.mem_of_getElem? (i := 21) rfl)) (hw _ (List.mem_of_getElem? (i := 6) rfl)) (by decide) (by decide)) qa11 qc11 (g := (mkF m 35 #[.val (.int p1), .val (.int p2), .val (.int p3), .val (.int p4), .val (.int r2), .val (.int r4), .val (.int r6), .val (.int r8), .val (.ref b9), .unset, .unset, .unset, .unset, .unset, .unset, .unset, .unset, .unset, .unset, .unset, .unset, .unset, .unset, .unset, .unset, .unset] [(.ref b9)])) rfl (by rw [hml]; rfl) (Steps.refl _) (argsL := []) (rest := []) (lenOf own_pd2 rfl) rfl (by show 2 * 0 + _ ≤ _; exact Nat.le_of_eq rfl) (hb hby at_35) (fun _ _ => ⟨rfl, rfl, (by decide : 0 + 0 + 0 + 0 + 0 + 1 + 0 + 0 ≤ _), (by decide : 0 + 0 + 0 + 0 + 0 + 3 + 0 + 0 ≤ _)⟩)
  dsimp only [Pt.U, Pt.locs, Pt.cells, Pt.slots] at X11 l11 y11 z11 st11 hQ11
  subst l11 y11 z11
  obtain ⟨rfl, N11q, e11⟩ := hQ11
  have N11 := Fr.app N10 N11q
  refine own_go (fun tgt cont => st11.trans cont) ?_
  show own_Go p e below s (Q0 n0) room_1.cells room_1.slots (T11.setTop (mkF m 38 #[.val (.int p1), .val (.int p2), .val (.int p3), .val (.int p4), .val (.int r2), .val (.int r4), .val (.int r6), .val (.int r8), .val (.ref b9), .unset, .unset, .unset, .unset, .unset, .unset, .unset, .unset, .unset, .unset, .unset, .unset, .unset, .unset, .unset, .unset, .unset] [(.long (1 : Int64))]))
  refine own_go (B := T11.setTop (mkF m 45 #[.val (.int p1), .val (.int p2), .val (.int p3), .val (.int p4), .val (.int r2), .val (.int r4), .val (.int r6), .val (.int r8), .val (.ref b9), .unset, .unset, .unset, .unset, .unset, .unset, .unset, .unset, .unset, .unset, .unset, .unset, .unset, .unset, .unset, .unset, .unset] [(.ref b9)])) (fun tgt cont => ?_) ?_
  · refine XT.lconstV X11.here hx rfl (1 : Int64) (hb hby at_38) rfl ?_
    refine XT.lcmp X11.here hx rfl (hb hby at_39) rfl ?_
    refine XS.ifNo X11.here hx rfl (hb hby at_40) rfl (XT.ll_ne_f (by decide)) ?_
    refine XS.aload X11.here hx rfl (hb hby at_43) rfl rfl ?_
    exact cont
  -- pc 45: TextPosition.column
  obtain ⟨cq12, kq12, qa12, qb12, qc12⟩ := isOf hZ e11 ex10_0
  obtain ⟨_, _, ⟨T12, L12, k12, n12⟩, -, X12, ⟨Lc12, hQ12, l12, y12, z12⟩, st12⟩ := X11.virtualBack hx (y := (⟨"com/example/pandect/pandect/text/TextPosition", "column", "()J"⟩ : MethodName)) (z := (⟨"com/example/pandect/pandect/text/TextPosition", "column", "()J"⟩ : MethodName)) hown (mvT hZ (hw _ (List.mem_of_getElem? (i := 22) rfl))) (mvT hZ (hw _ (List.mem_of_getElem? (i := 23) rfl))) (notFace_of_selects (args := #[]) (mvT hZ (hw _ (List.mem_of_getElem? (i := 25) rfl)))) (mvT hZ (hw _ (List.mem_of_getElem? (i := 25) rfl))) (mvT hZ (hw _ (List.mem_of_getElem? (i := 24) rfl))) (by decide) (backOf (W := 0) (rm5 l Z a0 hw [] b9 (1 : Int64) T10.heap n0 zp10 ex10_0 fa10_1) hZ (hw _ (List.mem_of_getElem? (i := 26) rfl)) (hw _ (List.mem_of_getElem? (i := 6) rfl)) (by decide) (by decide)) qa12 qc12 (g := (mkF m 45 #[.val (.int p1), .val (.int p2), .val (.int p3), .val (.int p4), .val (.int r2), .val (.int r4), .val (.int r6), .val (.int r8), .val (.ref b9), .unset, .unset, .unset, .unset, .unset, .unset, .unset, .unset, .unset, .unset, .unset, .unset, .unset, .unset, .unset, .unset, .unset] [(.ref b9)])) rfl (by rw [hml]; rfl) (Steps.refl _) (argsL := []) (rest := []) (lenOf own_pd2 rfl) rfl (by show 2 * 0 + _ ≤ _; exact Nat.le_of_eq rfl) (hb hby at_45) (fun _ _ => ⟨rfl, e11, (by decide : 0 + 0 + 0 + 0 + 0 + 1 + 0 + 0 + 0 ≤ _), (by decide : 0 + 0 + 0 + 0 + 0 + 3 + 0 + 0 + 0 ≤ _)⟩)
  dsimp only [Pt.U, Pt.locs, Pt.cells, Pt.slots] at X12 l12 y12 z12 st12 hQ12
  subst l12 y12 z12
  obtain ⟨rfl, N12q, e12⟩ := hQ12
  have N12 := Fr.app N11 N12q
  refine own_go (fun tgt cont => st12.trans cont) ?_
  show own_Go p e below s (Q0 n0) room_1.cells room_1.slots (T12.setTop (mkF m 48 #[.val (.int p1), .val (.int p2), .val (.int p3), .val (.int p4), .val (.int r2), .val (.int r4), .val (.int r6), .val (.int r8), .val (.ref b9), .unset, .unset, .unset, .unset, .unset, .unset, .unset, .unset, .unset, .unset, .unset, .unset, .unset, .unset, .unset, .unset, .unset] [(.long (1 : Int64))]))
  refine own_go (B := T12.setTop (mkF m 64 #[.val (.int p1), .val (.int p2), .val (.int p3), .val (.int p4), .val (.int r2), .val (.int r4), .val (.int r6), .val (.int r8), .val (.ref b9), .val (.int (1 : Int32)), .unset, .unset, .unset, .unset, .unset, .unset, .unset, .unset, .unset, .unset, .unset, .unset, .unset, .unset, .unset, .unset] [(.int r2), (.ref b9)])) (fun tgt cont => ?_) ?_
  · refine XT.lconstV X12.here hx rfl (1 : Int64) (hb hby at_48) rfl ?_
    refine XT.lcmp X12.here hx rfl (hb hby at_49) rfl ?_
    refine XS.ifNo X12.here hx rfl (hb hby at_50) rfl (XT.ll_ne_f (by decide)) ?_
    refine XT.iconstV X12.here hx rfl (1 : Int32) (hb hby at_53) rfl ?_
    refine XS.goto X12.here hx rfl (pc0 := 54) (pc' := 58) rfl (hb hby at_54) (by decide) (by decide) ?_
    refine XS.istore X12.here hx rfl (hb hby at_58) rfl (l' := #[.val (.int p1), .val (.int p2), .val (.int p3), .val (.int p4), .val (.int r2), .val (.int r4), .val (.int r6), .val (.int r8), .val (.ref b9), .val (.int (1 : Int32)), .unset, .unset, .unset, .unset, .unset, .unset, .unset, .unset, .unset, .unset, .unset, .unset, .unset, .unset, .unset, .unset]) rfl ?_
    refine XS.aload X12.here hx rfl (hb hby at_60) rfl rfl ?_
    refine XS.iload X12.here hx rfl (hb hby at_62) rfl ?_
    exact cont
  -- pc 64: TextPosition.advance
  obtain ⟨cq13, kq13, qa13, qb13, qc13⟩ := isOf hZ e12 ex10_0
  obtain ⟨_, _, ⟨T13, L13, k13, n13⟩, -, X13, ⟨Lc13, hQ13, l13, y13, z13⟩, st13⟩ := X12.virtualBack hx (y := (⟨"com/example/pandect/pandect/text/TextPosition", "advance", "(I)V"⟩ : MethodName)) (z := (⟨"com/example/pandect/pandect/text/TextPosition", "advance", "(I)V"⟩ : MethodName)) hown (mvT hZ (hw _ (List.mem_of_getElem? (i := 27) rfl))) (mvT hZ (hw _ (List.mem_of_getElem? (i := 28) rfl))) (notFace_of_selects (args := #[]) (mvT hZ (hw _ (List.mem_of_getElem? (i := 30) rfl)))) (mvT hZ (hw _ (List.mem_of_getElem? (i := 30) rfl))) (mvT hZ (hw _ (List.mem_of_getElem? (i := 29) rfl))) (by decide) (backOf (W := 0) (rm6 l Z a0 hw [] b9 r2 (1 : Int64) (1 : Int64) (0 : Int32) T10.heap n0 zp10 ex10_0 fa10_0 fa10_1 fa10_2 g_b9) hZ (hw _ (List.mem_of_getElem? (i := 31) rfl)) (hw _ (List.mem_of_getElem? (i := 6) rfl)) (by decide) (by decide)) qa13 qc13 (g := (mkF m 64 #[.val (.int p1), .val (.int p2), .val (.int p3), .val (.int p4), .val (.int r2), .val (.int r4), .val (.int r6), .val (.int r8), .val (.ref b9), .val (.int (1 : Int32)), .unset, .unset, .unset, .unset, .unset, .unset, .unset, .unset, .unset, .unset, .unset, .unset, .unset, .unset, .unset, .unset] [(.int r2), (.ref b9)])) rfl (by rw [hml]; rfl) (Steps.refl _) (argsL := [(.int r2)]) (rest := []) (lenOf own_pd3 rfl) rfl (by show 2 * 0 + _ ≤ _; exact Nat.le_of_eq rfl) (hb hby at_64) (fun _ _ => ⟨rfl, e12, (by decide : 0 + 0 + 0 + 0 + 0 + 1 + 0 + 0 + 0 + 0 ≤ _), (by decide : 0 + 0 + 0 + 0 + 0 + 3 + 0 + 0 + 0 + 0 ≤ _)⟩)
  dsimp only [Pt.U, Pt.locs, Pt.cells, Pt.slots] at X13 l13 y13 z13 st13 hQ13
  subst l13 y13 z13
  obtain ⟨rfl, N13q, K13, ex13_0, fa13_0, fa13_1, fa13_2⟩ := hQ13
  have N13 := Fr.app N12 N13q
  have kk13 : Keep h0 T13.heap [] := kk10.trans K13 (allS (Or.inr sz_b9) all0)
  have zp13 : n0 ≤ T13.heap.size := Nat.le_trans Z0 kk13.1
  generalize hw14 : (own_adv_line r2 (1 : Int64) (0 : Int32)) = w14 at fa13_0
  generalize hw15 : (own_adv_column r2 (1 : Int64) (0 : Int32)) = w15 at fa13_1
  generalize hw16 : (own_adv_afterCarriageReturn r2) = w16 at fa13_2
  refine own_go (fun tgt cont => st13.trans cont) ?_
  show own_Go p e below s (Q0 n0) room_1.cells room_1.slots (T13.setTop (mkF m 67 #[.val (.int p1), .val (.int p2), .val (.int p3), .val (.int p4), .val (.int r2), .val (.int r4), .val (.int r6), .val (.int r8), .val (.ref b9), .val (.int (1 : Int32)), .unset, .unset, .unset, .unset, .unset, .unset, .unset, .unset, .unset, .unset, .unset, .unset, .unset, .unset, .unset, .unset] []))
  refine own_go (B := T13.setTop (mkF m 70 #[.val (.int p1), .val (.int p2), .val (.int p3), .val (.int p4), .val (.int r2), .val (.int r4), .val (.int r6), .val (.int r8), .val (.ref b9), .val (.int (1 : Int32)), .unset, .unset, .unset, .unset, .unset, .unset, .unset, .unset, .unset, .unset, .unset, .unset, .unset, .unset, .unset, .unset] [(.int r2), (.long (1 : Int64))])) (fun tgt cont => ?_) ?_
  · refine XT.lconstV X13.here hx rfl (1 : Int64) (hb hby at_67) rfl ?_
    refine XS.iload X13.here hx rfl (hb hby at_68) rfl ?_
    exact cont
  -- pc 70: TextPositionAdvancePinLaw.eol
  obtain ⟨_, _, ⟨T17, L17, k17, n17⟩, -, X17, ⟨Lc17, hQ17, l17, y17, z17⟩, st17⟩ := Jvm.LawKit.callS X13 hx (y := (⟨"com/example/pandect/pandect/text/TextPositionAdvancePinLaw", "eol", "(I)Z"⟩ : MethodName)) hown (mvT hZ (hw _ (List.mem_of_getElem? (i := 34) rfl))) (mvT hZ (hw _ (List.mem_of_getElem? (i := 35) rfl))) (mvT hZ (hw _ (List.mem_of_getElem? (i := 2) rfl))) (mvT hZ (hw _ (List.mem_of_getElem? (i := 36) rfl))) (by decide) (backOf (W := 2) (rm7 l Z a0 hw [] r2 T13.heap n0 zp13 ) hZ (hw _ (List.mem_of_getElem? (i := 36) rfl)) (hw _ (List.mem_of_getElem? (i := 2) rfl)) (by decide) (by decide)) (g := (mkF m 70 #[.val (.int p1), .val (.int p2), .val (.int p3), .val (.int p4), .val (.int r2), .val (.int r4), .val (.int r6), .val (.int r8), .val (.ref b9), .val (.int (1 : Int32)), .unset, .unset, .unset, .unset, .unset, .unset, .unset, .unset, .unset, .unset, .unset, .unset, .unset, .unset, .unset, .unset] [(.int r2), (.long (1 : Int64))])) rfl (by rw [hml]; rfl) (argsL := [(.int r2)]) (rest := [(.long (1 : Int64))]) (lenOf own_pd4 rfl) rfl (by show 2 * 0 + _ ≤ _; exact Nat.le_of_eq rfl) (hb hby at_70) (fun _ _ => ⟨rfl, rfl, (by decide : 0 + 0 + 0 + 0 + 0 + 1 + 0 + 0 + 0 + 0 + 0 ≤ _), (by decide : 0 + 0 + 0 + 0 + 0 + 3 + 0 + 0 + 0 + 0 + 0 ≤ _)⟩)
  dsimp only [Pt.U, Pt.locs, Pt.cells, Pt.slots] at X17 l17 y17 z17 st17 hQ17
  subst l17 y17 z17
  obtain ⟨rfl, N17q, e17⟩ := hQ17
  have N17 := Fr.app N13 N17q
  refine own_go (fun tgt cont => st17 tgt cont) ?_
  show own_Go p e below s (Q0 n0) room_1.cells room_1.slots (T17.setTop (mkF m 73 #[.val (.int p1), .val (.int p2), .val (.int p3), .val (.int p4), .val (.int r2), .val (.int r4), .val (.int r6), .val (.int r8), .val (.ref b9), .val (.int (1 : Int32)), .unset, .unset, .unset, .unset, .unset, .unset, .unset, .unset, .unset, .unset, .unset, .unset, .unset, .unset, .unset, .unset] [(.int (own_eol r2)), (.long (1 : Int64))]))
  generalize hr18 : (own_eol r2) = r18
  have K19 : ∀ (v20 : Int64) (hv20 : v20 = (if r18 = 0 then (0 : Int64) else (1 : Int64))), own_Go p e below s (Q0 n0) room_1.cells room_1.slots (T17.setTop (mkF m 81 #[.val (.int p1), .val (.int p2), .val (.int p3), .val (.int p4), .val (.int r2), .val (.int r4), .val (.int r6), .val (.int r8), .val (.ref b9), .val (.int (1 : Int32)), .unset, .unset, .unset, .unset, .unset, .unset, .unset, .unset, .unset, .unset, .unset, .unset, .unset, .unset, .unset, .unset] [(.long v20), (.long (1 : Int64))])) := by
    intro v20 hv20
    refine own_go (B := T17.setTop (mkF m 82 #[.val (.int p1), .val (.int p2), .val (.int p3), .val (.int p4), .val (.int r2), .val (.int r4), .val (.int r6), .val (.int r8), .val (.ref b9), .val (.int (1 : Int32)), .unset, .unset, .unset, .unset, .unset, .unset, .unset, .unset, .unset, .unset, .unset, .unset, .unset, .unset, .unset, .unset] [(.long ((1 : Int64) + v20))])) (fun tgt cont => ?_) ?_
    · refine XS.ladd X17.here hx rfl (hb hby at_81) rfl ?_
      exact cont
    generalize hv21 : ((1 : Int64) + v20) = v21
    refine own_go (B := T17.setTop (mkF m 86 #[.val (.int p1), .val (.int p2), .val (.int p3), .val (.int p4), .val (.int r2), .val (.int r4), .val (.int r6), .val (.int r8), .val (.ref b9), .val (.int (1 : Int32)), .val (.long v21), .second, .unset, .unset, .unset, .unset, .unset, .unset, .unset, .unset, .unset, .unset, .unset, .unset, .unset, .unset] [(.int r2)])) (fun tgt cont => ?_) ?_
    · refine XS.lstore X17.here hx rfl (hb hby at_82) rfl (l' := #[.val (.int p1), .val (.int p2), .val (.int p3), .val (.int p4), .val (.int r2), .val (.int r4), .val (.int r6), .val (.int r8), .val (.ref b9), .val (.int (1 : Int32)), .val (.long v21), .second, .unset, .unset, .unset, .unset, .unset, .unset, .unset, .unset, .unset, .unset, .unset, .unset, .unset, .unset]) rfl ?_
      refine XS.iload X17.here hx rfl (hb hby at_84) rfl ?_
      exact cont
    -- pc 86: TextPositionAdvancePinLaw.eol
    obtain ⟨_, _, ⟨T22, L22, k22, n22⟩, -, X22, ⟨Lc22, hQ22, l22, y22, z22⟩, st22⟩ := Jvm.LawKit.callS X17 hx (y := (⟨"com/example/pandect/pandect/text/TextPositionAdvancePinLaw", "eol", "(I)Z"⟩ : MethodName)) hown (mvT hZ (hw _ (List.mem_of_getElem? (i := 34) rfl))) (mvT hZ (hw _ (List.mem_of_getElem? (i := 35) rfl))) (mvT hZ (hw _ (List.mem_of_getElem? (i := 2) rfl))) (mvT hZ (hw _ (List.mem_of_getElem? (i := 36) rfl))) (by decide) (backOf (W := 0) (rm7 l Z a0 hw [] r2 T13.heap n0 zp13 ) hZ (hw _ (List.mem_of_getElem? (i := 36) rfl)) (hw _ (List.mem_of_getElem? (i := 2) rfl)) (by decide) (by decide)) (g := (mkF m 86 #[.val (.int p1), .val (.int p2), .val (.int p3), .val (.int p4), .val (.int r2), .val (.int r4), .val (.int r6), .val (.int r8), .val (.ref b9), .val (.int (1 : Int32)), .val (.long v21), .second, .unset, .unset, .unset, .unset, .unset, .unset, .unset, .unset, .unset, .unset, .unset, .unset, .unset, .unset] [(.int r2)])) rfl (by rw [hml]; rfl) (argsL := [(.int r2)]) (rest := []) (lenOf own_pd4 rfl) rfl (by show 2 * 0 + _ ≤ _; exact Nat.le_of_eq rfl) (hb hby at_86) (fun _ _ => ⟨rfl, e17, (by decide : 0 + 0 + 0 + 0 + 0 + 1 + 0 + 0 + 0 + 0 + 0 + 0 ≤ _), (by decide : 0 + 0 + 0 + 0 + 0 + 3 + 0 + 0 + 0 + 0 + 0 + 0 ≤ _)⟩)
    dsimp only [Pt.U, Pt.locs, Pt.cells, Pt.slots] at X22 l22 y22 z22 st22 hQ22
    subst l22 y22 z22
    obtain ⟨rfl, N22q, e22⟩ := hQ22
    have N22 := Fr.app N17 N22q
    refine own_go (fun tgt cont => st22 tgt cont) ?_
    show own_Go p e below s (Q0 n0) room_1.cells room_1.slots (T22.setTop (mkF m 89 #[.val (.int p1), .val (.int p2), .val (.int p3), .val (.int p4), .val (.int r2), .val (.int r4), .val (.int r6), .val (.int r8), .val (.ref b9), .val (.int (1 : Int32)), .val (.long v21), .second, .unset, .unset, .unset, .unset, .unset, .unset, .unset, .unset, .unset, .unset, .unset, .unset, .unset, .unset] [(.int (own_eol r2))]))
    generalize hr23 : (own_eol r2) = r23
    have K24 : ∀ (v25 : Int64) (hv25 : v25 = (if r23 = 0 then (2 : Int64) else (1 : Int64))), own_Go p e below s (Q0 n0) room_1.cells room_1.slots (T22.setTop (mkF m 99 #[.val (.int p1), .val (.int p2), .val (.int p3), .val (.int p4), .val (.int r2), .val (.int r4), .val (.int r6), .val (.int r8), .val (.ref b9), .val (.int (1 : Int32)), .val (.long v21), .second, .unset, .unset, .unset, .unset, .unset, .unset, .unset, .unset, .unset, .unset, .unset, .unset, .unset, .unset] [(.long v25)])) := by
      intro v25 hv25
      refine own_go (B := T22.setTop (mkF m 108 #[.val (.int p1), .val (.int p2), .val (.int p3), .val (.int p4), .val (.int r2), .val (.int r4), .val (.int r6), .val (.int r8), .val (.ref b9), .val (.int (1 : Int32)), .val (.long v21), .second, .val (.long v25), .second, .unset, .unset, .unset, .unset, .unset, .unset, .unset, .unset, .unset, .unset, .unset, .unset] [(.ref b9)])) (fun tgt cont => ?_) ?_
      · refine XS.lstore X22.here hx rfl (hb hby at_99) rfl (l' := #[.val (.int p1), .val (.int p2), .val (.int p3), .val (.int p4), .val (.int r2), .val (.int r4), .val (.int r6), .val (.int r8), .val (.ref b9), .val (.int (1 : Int32)), .val (.long v21), .second, .val (.long v25), .second, .unset, .unset, .unset, .unset, .unset, .unset, .unset, .unset, .unset, .unset, .unset, .unset]) rfl ?_
        refine XS.iload X22.here hx rfl (hb hby at_101) rfl ?_
        refine XS.ifNo X22.here hx rfl (hb hby at_103) rfl (XT.i0_eq_f (by decide)) ?_
        refine XS.aload X22.here hx rfl (hb hby at_106) rfl rfl ?_
        exact cont
      -- pc 108: TextPosition.line
      obtain ⟨cq26, kq26, qa26, qb26, qc26⟩ := isOf hZ e22 ex13_0
      obtain ⟨_, _, ⟨T26, L26, k26, n26⟩, -, X26, ⟨Lc26, hQ26, l26, y26, z26⟩, st26⟩ := X22.virtualBack hx (y := (⟨"com/example/pandect/pandect/text/TextPosition", "line", "()J"⟩ : MethodName)) (z := (⟨"com/example/pandect/pandect/text/TextPosition", "line", "()J"⟩ : MethodName)) hown (mvT hZ (hw _ (List.mem_of_getElem? (i := 17) rfl))) (mvT hZ (hw _ (List.mem_of_getElem? (i := 18) rfl))) (notFace_of_selects (args := #[]) (mvT hZ (hw _ (List.mem_of_getElem? (i := 20) rfl)))) (mvT hZ (hw _ (List.mem_of_getElem? (i := 20) rfl))) (mvT hZ (hw _ (List.mem_of_getElem? (i := 19) rfl))) (by decide) (backOf (W := 0) (rm4 l Z a0 hw [] b9 w14 T13.heap n0 zp13 ex13_0 fa13_0) hZ (hw _ (List.mem_of_getElem? (i := 21) rfl)) (hw _ (List.mem_of_getElem? (i := 6) rfl)) (by decide) (by decide)) qa26 qc26 (g := (mkF m 108 #[.val (.int p1), .val (.int p2), .val (.int p3), .val (.int p4), .val (.int r2), .val (.int r4), .val (.int r6), .val (.int r8), .val (.ref b9), .val (.int (1 : Int32)), .val (.long v21), .second, .val (.long v25), .second, .unset, .unset, .unset, .unset, .unset, .unset, .unset, .unset, .unset, .unset, .unset, .unset] [(.ref b9)])) rfl (by rw [hml]; rfl) (Steps.refl _) (argsL := []) (rest := []) (lenOf own_pd2 rfl) rfl (by show 2 * 0 + _ ≤ _; exact Nat.le_of_eq rfl) (hb hby at_108) (fun _ _ => ⟨rfl, e22, (by decide : 0 + 0 + 0 + 0 + 0 + 1 + 0 + 0 + 0 + 0 + 0 + 0 + 0 ≤ _), (by decide : 0 + 0 + 0 + 0 + 0 + 3 + 0 + 0 + 0 + 0 + 0 + 0 + 0 ≤ _)⟩)
      dsimp only [Pt.U, Pt.locs, Pt.cells, Pt.slots] at X26 l26 y26 z26 st26 hQ26
      subst l26 y26 z26
      obtain ⟨rfl, N26q, e26⟩ := hQ26
      have N26 := Fr.app N22 N26q
      refine own_go (fun tgt cont => st26.trans cont) ?_
      show own_Go p e below s (Q0 n0) room_1.cells room_1.slots (T26.setTop (mkF m 111 #[.val (.int p1), .val (.int p2), .val (.int p3), .val (.int p4), .val (.int r2), .val (.int r4), .val (.int r6), .val (.int r8), .val (.ref b9), .val (.int (1 : Int32)), .val (.long v21), .second, .val (.long v25), .second, .unset, .unset, .unset, .unset, .unset, .unset, .unset, .unset, .unset, .unset, .unset, .unset] [(.long w14)]))
      refine own_go (B := T26.setTop (mkF m 119 #[.val (.int p1), .val (.int p2), .val (.int p3), .val (.int p4), .val (.int r2), .val (.int r4), .val (.int r6), .val (.int r8), .val (.ref b9), .val (.int (1 : Int32)), .val (.long v21), .second, .val (.long v25), .second, .unset, .unset, .unset, .unset, .unset, .unset, .unset, .unset, .unset, .unset, .unset, .unset] [(.ref b9)])) (fun tgt cont => ?_) ?_
      · refine XS.lload X26.here hx rfl (hb hby at_111) rfl ?_
        refine XT.lcmp X26.here hx rfl (hb hby at_113) rfl ?_
        refine XS.ifNo X26.here hx rfl (hb hby at_114) rfl (XT.ll_ne_f (by subst hw14 hv21 hv20 hr18; exact own_eq0 r2 )) ?_
        refine XS.aload X26.here hx rfl (hb hby at_117) rfl rfl ?_
        exact cont
      -- pc 119: TextPosition.column
      obtain ⟨cq27, kq27, qa27, qb27, qc27⟩ := isOf hZ e26 ex13_0
      obtain ⟨_, _, ⟨T27, L27, k27, n27⟩, -, X27, ⟨Lc27, hQ27, l27, y27, z27⟩, st27⟩ := X26.virtualBack hx (y := (⟨"com/example/pandect/pandect/text/TextPosition", "column", "()J"⟩ : MethodName)) (z := (⟨"com/example/pandect/pandect/text/TextPosition", "column", "()J"⟩ : MethodName)) hown (mvT hZ (hw _ (List.mem_of_getElem? (i := 22) rfl))) (mvT hZ (hw _ (List.mem_of_getElem? (i := 23) rfl))) (notFace_of_selects (args := #[]) (mvT hZ (hw _ (List.mem_of_getElem? (i := 25) rfl)))) (mvT hZ (hw _ (List.mem_of_getElem? (i := 25) rfl))) (mvT hZ (hw _ (List.mem_of_getElem? (i := 24) rfl))) (by decide) (backOf (W := 0) (rm5 l Z a0 hw [] b9 w15 T13.heap n0 zp13 ex13_0 fa13_1) hZ (hw _ (List.mem_of_getElem? (i := 26) rfl)) (hw _ (List.mem_of_getElem? (i := 6) rfl)) (by decide) (by decide)) qa27 qc27 (g := (mkF m 119 #[.val (.int p1), .val (.int p2), .val (.int p3), .val (.int p4), .val (.int r2), .val (.int r4), .val (.int r6), .val (.int r8), .val (.ref b9), .val (.int (1 : Int32)), .val (.long v21), .second, .val (.long v25), .second, .unset, .unset, .unset, .unset, .unset, .unset, .unset, .unset, .unset, .unset, .unset, .unset] [(.ref b9)])) rfl (by rw [hml]; rfl) (Steps.refl _) (argsL := []) (rest := []) (lenOf own_pd2 rfl) rfl (by show 2 * 0 + _ ≤ _; exact Nat.le_of_eq rfl) (hb hby at_119) (fun _ _ => ⟨rfl, e26, (by decide : 0 + 0 + 0 + 0 + 0 + 1 + 0 + 0 + 0 + 0 + 0 + 0 + 0 + 0 ≤ _), (by decide : 0 + 0 + 0 + 0 + 0 + 3 + 0 + 0 + 0 + 0 + 0 + 0 + 0 + 0 ≤ _)⟩)
      dsimp only [Pt.U, Pt.locs, Pt.cells, Pt.slots] at X27 l27 y27 z27 st27 hQ27
      subst l27 y27 z27
      obtain ⟨rfl, N27q, e27⟩ := hQ27
      have N27 := Fr.app N26 N27q
      refine own_go (fun tgt cont => st27.trans cont) ?_
      show own_Go p e below s (Q0 n0) room_1.cells room_1.slots (T27.setTop (mkF m 122 #[.val (.int p1), .val (.int p2), .val (.int p3), .val (.int p4), .val (.int r2), .val (.int r4), .val (.int r6), .val (.int r8), .val (.ref b9), .val (.int (1 : Int32)), .val (.long v21), .second, .val (.long v25), .second, .unset, .unset, .unset, .unset, .unset, .unset, .unset, .unset, .unset, .unset, .unset, .unset] [(.long w15)]))
      refine own_go (B := T27.setTop (mkF m 139 #[.val (.int p1), .val (.int p2), .val (.int p3), .val (.int p4), .val (.int r2), .val (.int r4), .val (.int r6), .val (.int r8), .val (.ref b9), .val (.int (1 : Int32)), .val (.long v21), .second, .val (.long v25), .second, .unset, .unset, .unset, .unset, .unset, .unset, .unset, .unset, .unset, .unset, .unset, .unset] [(.int r4), (.ref b9)])) (fun tgt cont => ?_) ?_
      · refine XS.lload X27.here hx rfl (hb hby at_122) rfl ?_
        refine XT.lcmp X27.here hx rfl (hb hby at_124) rfl ?_
        refine XS.ifNo X27.here hx rfl (hb hby at_125) rfl (XT.ll_ne_f (by subst hw15 hv25 hr23; exact own_eq1 r2 )) ?_
        refine XT.iconstV X27.here hx rfl (1 : Int32) (hb hby at_128) rfl ?_
        refine XS.goto X27.here hx rfl (pc0 := 129) (pc' := 133) rfl (hb hby at_129) (by decide) (by decide) ?_
        refine XS.istore X27.here hx rfl (hb hby at_133) rfl (l' := #[.val (.int p1), .val (.int p2), .val (.int p3), .val (.int p4), .val (.int r2), .val (.int r4), .val (.int r6), .val (.int r8), .val (.ref b9), .val (.int (1 : Int32)), .val (.long v21), .second, .val (.long v25), .second, .unset, .unset, .unset, .unset, .unset, .unset, .unset, .unset, .unset, .unset, .unset, .unset]) rfl ?_
        refine XS.aload X27.here hx rfl (hb hby at_135) rfl rfl ?_
        refine XS.iload X27.here hx rfl (hb hby at_137) rfl ?_
        exact cont
      -- pc 139: TextPosition.advance
      obtain ⟨cq28, kq28, qa28, qb28, qc28⟩ := isOf hZ e27 ex13_0
      obtain ⟨_, _, ⟨T28, L28, k28, n28⟩, -, X28, ⟨Lc28, hQ28, l28, y28, z28⟩, st28⟩ := X27.virtualBack hx (y := (⟨"com/example/pandect/pandect/text/TextPosition", "advance", "(I)V"⟩ : MethodName)) (z := (⟨"com/example/pandect/pandect/text/TextPosition", "advance", "(I)V"⟩ : MethodName)) hown (mvT hZ (hw _ (List.mem_of_getElem? (i := 27) rfl))) (mvT hZ (hw _ (List.mem_of_getElem? (i := 28) rfl))) (notFace_of_selects (args := #[]) (mvT hZ (hw _ (List.mem_of_getElem? (i := 30) rfl)))) (mvT hZ (hw _ (List.mem_of_getElem? (i := 30) rfl))) (mvT hZ (hw _ (List.mem_of_getElem? (i := 29) rfl))) (by decide) (backOf (W := 0) (rm6 l Z a0 hw [] b9 r4 w14 w15 w16 T13.heap n0 zp13 ex13_0 fa13_0 fa13_1 fa13_2 g_b9) hZ (hw _ (List.mem_of_getElem? (i := 31) rfl)) (hw _ (List.mem_of_getElem? (i := 6) rfl)) (by decide) (by decide)) qa28 qc28 (g := (mkF m 139 #[.val (.int p1), .val (.int p2), .val (.int p3), .val (.int p4), .val (.int r2), .val (.int r4), .val (.int r6), .val (.int r8), .val (.ref b9), .val (.int (1 : Int32)), .val (.long v21), .second, .val (.long v25), .second, .unset, .unset, .unset, .unset, .unset, .unset, .unset, .unset, .unset, .unset, .unset, .unset] [(.int r4), (.ref b9)])) rfl (by rw [hml]; rfl) (Steps.refl _) (argsL := [(.int r4)]) (rest := []) (lenOf own_pd3 rfl) rfl (by show 2 * 0 + _ ≤ _; exact Nat.le_of_eq rfl) (hb hby at_139) (fun _ _ => ⟨rfl, e27, (by decide : 0 + 0 + 0 + 0 + 0 + 1 + 0 + 0 + 0 + 0 + 0 + 0 + 0 + 0 + 0 ≤ _), (by decide : 0 + 0 + 0 + 0 + 0 + 3 + 0 + 0 + 0 + 0 + 0 + 0 + 0 + 0 + 0 ≤ _)⟩)
      dsimp only [Pt.U, Pt.locs, Pt.cells, Pt.slots] at X28 l28 y28 z28 st28 hQ28
      subst l28 y28 z28
      obtain ⟨rfl, N28q, K28, ex28_0, fa28_0, fa28_1, fa28_2⟩ := hQ28
      have N28 := Fr.app N27 N28q
      have kk28 : Keep h0 T28.heap [] := kk13.trans K28 (allS (Or.inr sz_b9) all0)
      have zp28 : n0 ≤ T28.heap.size := Nat.le_trans Z0 kk28.1
      generalize hw29 : (own_adv_line r4 w14 w16) = w29 at fa28_0
      generalize hw30 : (own_adv_column r4 w15 w16) = w30 at fa28_1
      generalize hw31 : (own_adv_afterCarriageReturn r4) = w31 at fa28_2
      refine own_go (fun tgt cont => st28.trans cont) ?_
      show own_Go p e below s (Q0 n0) room_1.cells room_1.slots (T28.setTop (mkF m 142 #[.val (.int p1), .val (.int p2), .val (.int p3), .val (.int p4), .val (.int r2), .val (.int r4), .val (.int r6), .val (.int r8), .val (.ref b9), .val (.int (1 : Int32)), .val (.long v21), .second, .val (.long v25), .second, .unset, .unset, .unset, .unset, .unset, .unset, .unset, .unset, .unset, .unset, .unset, .unset] []))
      refine own_go (B := T28.setTop (mkF m 148 #[.val (.int p1), .val (.int p2), .val (.int p3), .val (.int p4), .val (.int r2), .val (.int r4), .val (.int r6), .val (.int r8), .val (.ref b9), .val (.int (1 : Int32)), .val (.long v21), .second, .val (.long v25), .second, .unset, .unset, .unset, .unset, .unset, .unset, .unset, .unset, .unset, .unset, .unset, .unset] [(.int r4), (.int r2), (.long v21)])) (fun tgt cont => ?_) ?_
      · refine XS.lload X28.here hx rfl (hb hby at_142) rfl ?_
        refine XS.iload X28.here hx rfl (hb hby at_144) rfl ?_
        refine XS.iload X28.here hx rfl (hb hby at_146) rfl ?_
        exact cont
      -- pc 148: TextPositionAdvancePinLaw.brk
      obtain ⟨_, _, ⟨T32, L32, k32, n32⟩, -, X32, ⟨Lc32, hQ32, l32, y32, z32⟩, st32⟩ := Jvm.LawKit.callS X28 hx (y := (⟨"com/example/pandect/pandect/text/TextPositionAdvancePinLaw", "brk", "(II)J"⟩ : MethodName)) hown (mvT hZ (hw _ (List.mem_of_getElem? (i := 37) rfl))) (mvT hZ (hw _ (List.mem_of_getElem? (i := 38) rfl))) (mvT hZ (hw _ (List.mem_of_getElem? (i := 2) rfl))) (mvT hZ (hw _ (List.mem_of_getElem? (i := 39) rfl))) (by decide) (backOf (W := 2) (rm8 l Z a0 hw [] r2 r4 T28.heap n0 zp28 ) hZ (hw _ (List.mem_of_getElem? (i := 39) rfl)) (hw _ (List.mem_of_getElem? (i := 2) rfl)) (by decide) (by decide)) (g := (mkF m 148 #[.val (.int p1), .val (.int p2), .val (.int p3), .val (.int p4), .val (.int r2), .val (.int r4), .val (.int r6), .val (.int r8), .val (.ref b9), .val (.int (1 : Int32)), .val (.long v21), .second, .val (.long v25), .second, .unset, .unset, .unset, .unset, .unset, .unset, .unset, .unset, .unset, .unset, .unset, .unset] [(.int r4), (.int r2), (.long v21)])) rfl (by rw [hml]; rfl) (argsL := [(.int r2), (.int r4)]) (rest := [(.long v21)]) (lenOf own_pd5 rfl) rfl (by show 2 * 0 + _ ≤ _; exact Nat.le_of_eq rfl) (hb hby at_148) (fun _ _ => ⟨rfl, rfl, (by decide : 0 + 0 + 0 + 0 + 0 + 1 + 0 + 0 + 0 + 0 + 0 + 0 + 0 + 0 + 0 + 0 ≤ _), (by decide : 0 + 0 + 0 + 0 + 0 + 3 + 0 + 0 + 0 + 0 + 0 + 0 + 0 + 0 + 0 + 0 ≤ _)⟩)
      dsimp only [Pt.U, Pt.locs, Pt.cells, Pt.slots] at X32 l32 y32 z32 st32 hQ32
      subst l32 y32 z32
      obtain ⟨rfl, N32q, e32⟩ := hQ32
      have N32 := Fr.app N28 N32q
      refine own_go (fun tgt cont => st32 tgt cont) ?_
      show own_Go p e below s (Q0 n0) room_1.cells room_1.slots (T32.setTop (mkF m 151 #[.val (.int p1), .val (.int p2), .val (.int p3), .val (.int p4), .val (.int r2), .val (.int r4), .val (.int r6), .val (.int r8), .val (.ref b9), .val (.int (1 : Int32)), .val (.long v21), .second, .val (.long v25), .second, .unset, .unset, .unset, .unset, .unset, .unset, .unset, .unset, .unset, .unset, .unset, .unset] [(.long (own_brk r2 r4)), (.long v21)]))
      generalize hr33 : (own_brk r2 r4) = r33
      refine own_go (B := T32.setTop (mkF m 152 #[.val (.int p1), .val (.int p2), .val (.int p3), .val (.int p4), .val (.int r2), .val (.int r4), .val (.int r6), .val (.int r8), .val (.ref b9), .val (.int (1 : Int32)), .val (.long v21), .second, .val (.long v25), .second, .unset, .unset, .unset, .unset, .unset, .unset, .unset, .unset, .unset, .unset, .unset, .unset] [(.long (v21 + r33))])) (fun tgt cont => ?_) ?_
      · refine XS.ladd X32.here hx rfl (hb hby at_151) rfl ?_
        exact cont
      generalize hv34 : (v21 + r33) = v34
      refine own_go (B := T32.setTop (mkF m 156 #[.val (.int p1), .val (.int p2), .val (.int p3), .val (.int p4), .val (.int r2), .val (.int r4), .val (.int r6), .val (.int r8), .val (.ref b9), .val (.int (1 : Int32)), .val (.long v21), .second, .val (.long v25), .second, .val (.long v34), .second, .unset, .unset, .unset, .unset, .unset, .unset, .unset, .unset, .unset, .unset] [(.int r4)])) (fun tgt cont => ?_) ?_
      · refine XS.lstore X32.here hx rfl (hb hby at_152) rfl (l' := #[.val (.int p1), .val (.int p2), .val (.int p3), .val (.int p4), .val (.int r2), .val (.int r4), .val (.int r6), .val (.int r8), .val (.ref b9), .val (.int (1 : Int32)), .val (.long v21), .second, .val (.long v25), .second, .val (.long v34), .second, .unset, .unset, .unset, .unset, .unset, .unset, .unset, .unset, .unset, .unset]) rfl ?_
        refine XS.iload X32.here hx rfl (hb hby at_154) rfl ?_
        exact cont
      -- pc 156: TextPositionAdvancePinLaw.eol
      obtain ⟨_, _, ⟨T35, L35, k35, n35⟩, -, X35, ⟨Lc35, hQ35, l35, y35, z35⟩, st35⟩ := Jvm.LawKit.callS X32 hx (y := (⟨"com/example/pandect/pandect/text/TextPositionAdvancePinLaw", "eol", "(I)Z"⟩ : MethodName)) hown (mvT hZ (hw _ (List.mem_of_getElem? (i := 34) rfl))) (mvT hZ (hw _ (List.mem_of_getElem? (i := 35) rfl))) (mvT hZ (hw _ (List.mem_of_getElem? (i := 2) rfl))) (mvT hZ (hw _ (List.mem_of_getElem? (i := 36) rfl))) (by decide) (backOf (W := 0) (rm7 l Z a0 hw [] r4 T28.heap n0 zp28 ) hZ (hw _ (List.mem_of_getElem? (i := 36) rfl)) (hw _ (List.mem_of_getElem? (i := 2) rfl)) (by decide) (by decide)) (g := (mkF m 156 #[.val (.int p1), .val (.int p2), .val (.int p3), .val (.int p4), .val (.int r2), .val (.int r4), .val (.int r6), .val (.int r8), .val (.ref b9), .val (.int (1 : Int32)), .val (.long v21), .second, .val (.long v25), .second, .val (.long v34), .second, .unset, .unset, .unset, .unset, .unset, .unset, .unset, .unset, .unset, .unset] [(.int r4)])) rfl (by rw [hml]; rfl) (argsL := [(.int r4)]) (rest := []) (lenOf own_pd4 rfl) rfl (by show 2 * 0 + _ ≤ _; exact Nat.le_of_eq rfl) (hb hby at_156) (fun _ _ => ⟨rfl, e32, (by decide : 0 + 0 + 0 + 0 + 0 + 1 + 0 + 0 + 0 + 0 + 0 + 0 + 0 + 0 + 0 + 0 + 0 ≤ _), (by decide : 0 + 0 + 0 + 0 + 0 + 3 + 0 + 0 + 0 + 0 + 0 + 0 + 0 + 0 + 0 + 0 + 0 ≤ _)⟩)
      dsimp only [Pt.U, Pt.locs, Pt.cells, Pt.slots] at X35 l35 y35 z35 st35 hQ35
      subst l35 y35 z35
      obtain ⟨rfl, N35q, e35⟩ := hQ35
      have N35 := Fr.app N32 N35q
      refine own_go (fun tgt cont => st35 tgt cont) ?_
      show own_Go p e below s (Q0 n0) room_1.cells room_1.slots (T35.setTop (mkF m 159 #[.val (.int p1), .val (.int p2), .val (.int p3), .val (.int p4), .val (.int r2), .val (.int r4), .val (.int r6), .val (.int r8), .val (.ref b9), .val (.int (1 : Int32)), .val (.long v21), .second, .val (.long v25), .second, .val (.long v34), .second, .unset, .unset, .unset, .unset, .unset, .unset, .unset, .unset, .unset, .unset] [(.int (own_eol r4))]))
      generalize hr36 : (own_eol r4) = r36
      have K37 : ∀ (T37 : State) (L37 : List Loc) (v38 : Int64) (X37 : Stand p l e room_1 s m #[(.int p1), (.int p2), (.int p3), (.int p4)] below meth c T37 L37 1 3) (e37 : T37.heap = T28.heap) (N37 : Fr n0 L37) (hv38 : v38 = (if r36 = 0 then (if ((own_eol r2)) = 0 then (3 : Int64) else (2 : Int64)) else (1 : Int64))), own_Go p e below s (Q0 n0) room_1.cells room_1.slots (T37.setTop (mkF m 183 #[.val (.int p1), .val (.int p2), .val (.int p3), .val (.int p4), .val (.int r2), .val (.int r4), .val (.int r6), .val (.int r8), .val (.ref b9), .val (.int (1 : Int32)), .val (.long v21), .second, .val (.long v25), .second, .val (.long v34), .second, .unset, .unset, .unset, .unset, .unset, .unset, .unset, .unset, .unset, .unset] [(.long v38)])) := by
        intro T37 L37 v38 X37 e37 N37 hv38
        refine own_go (B := T37.setTop (mkF m 192 #[.val (.int p1), .val (.int p2), .val (.int p3), .val (.int p4), .val (.int r2), .val (.int r4), .val (.int r6), .val (.int r8), .val (.ref b9), .val (.int (1 : Int32)), .val (.long v21), .second, .val (.long v25), .second, .val (.long v34), .second, .val (.long v38), .second, .unset, .unset, .unset, .unset, .unset, .unset, .unset, .unset] [(.ref b9)])) (fun tgt cont => ?_) ?_
        · refine XS.lstore X37.here hx rfl (hb hby at_183) rfl (l' := #[.val (.int p1), .val (.int p2), .val (.int p3), .val (.int p4), .val (.int r2), .val (.int r4), .val (.int r6), .val (.int r8), .val (.ref b9), .val (.int (1 : Int32)), .val (.long v21), .second, .val (.long v25), .second, .val (.long v34), .second, .val (.long v38), .second, .unset, .unset, .unset, .unset, .unset, .unset, .unset, .unset]) rfl ?_
          refine XS.iload X37.here hx rfl (hb hby at_185) rfl ?_
          refine XS.ifNo X37.here hx rfl (hb hby at_187) rfl (XT.i0_eq_f (by decide)) ?_
          refine XS.aload X37.here hx rfl (hb hby at_190) rfl rfl ?_
          exact cont
        -- pc 192: TextPosition.line
        obtain ⟨cq39, kq39, qa39, qb39, qc39⟩ := isOf hZ e37 ex28_0
        obtain ⟨_, _, ⟨T39, L39, k39, n39⟩, -, X39, ⟨Lc39, hQ39, l39, y39, z39⟩, st39⟩ := X37.virtualBack hx (y := (⟨"com/example/pandect/pandect/text/TextPosition", "line", "()J"⟩ : MethodName)) (z := (⟨"com/example/pandect/pandect/text/TextPosition", "line", "()J"⟩ : MethodName)) hown (mvT hZ (hw _ (List.mem_of_getElem? (i := 17) rfl))) (mvT hZ (hw _ (List.mem_of_getElem? (i := 18) rfl))) (notFace_of_selects (args := #[]) (mvT hZ (hw _ (List.mem_of_getElem? (i := 20) rfl)))) (mvT hZ (hw _ (List.mem_of_getElem? (i := 20) rfl))) (mvT hZ (hw _ (List.mem_of_getElem? (i := 19) rfl))) (by decide) (backOf (W := 0) (rm4 l Z a0 hw [] b9 w29 T28.heap n0 zp28 ex28_0 fa28_0) hZ (hw _ (List.mem_of_getElem? (i := 21) rfl)) (hw _ (List.mem_of_getElem? (i := 6) rfl)) (by decide) (by decide)) qa39 qc39 (g := (mkF m 192 #[.val (.int p1), .val (.int p2), .val (.int p3), .val (.int p4), .val (.int r2), .val (.int r4), .val (.int r6), .val (.int r8), .val (.ref b9), .val (.int (1 : Int32)), .val (.long v21), .second, .val (.long v25), .second, .val (.long v34), .second, .val (.long v38), .second, .unset, .unset, .unset, .unset, .unset, .unset, .unset, .unset] [(.ref b9)])) rfl (by rw [hml]; rfl) (Steps.refl _) (argsL := []) (rest := []) (lenOf own_pd2 rfl) rfl (by show 2 * 0 + _ ≤ _; exact Nat.le_of_eq rfl) (hb hby at_192) (fun _ _ => ⟨rfl, e37, (by decide : 1 + 0 ≤ _), (by decide : 3 + 0 ≤ _)⟩)
        dsimp only [Pt.U, Pt.locs, Pt.cells, Pt.slots] at X39 l39 y39 z39 st39 hQ39
        subst l39 y39 z39
        obtain ⟨rfl, N39q, e39⟩ := hQ39
        have N39 := Fr.app N37 N39q
        refine own_go (fun tgt cont => st39.trans cont) ?_
        show own_Go p e below s (Q0 n0) room_1.cells room_1.slots (T39.setTop (mkF m 195 #[.val (.int p1), .val (.int p2), .val (.int p3), .val (.int p4), .val (.int r2), .val (.int r4), .val (.int r6), .val (.int r8), .val (.ref b9), .val (.int (1 : Int32)), .val (.long v21), .second, .val (.long v25), .second, .val (.long v34), .second, .val (.long v38), .second, .unset, .unset, .unset, .unset, .unset, .unset, .unset, .unset] [(.long w29)]))
        refine own_go (B := T39.setTop (mkF m 203 #[.val (.int p1), .val (.int p2), .val (.int p3), .val (.int p4), .val (.int r2), .val (.int r4), .val (.int r6), .val (.int r8), .val (.ref b9), .val (.int (1 : Int32)), .val (.long v21), .second, .val (.long v25), .second, .val (.long v34), .second, .val (.long v38), .second, .unset, .unset, .unset, .unset, .unset, .unset, .unset, .unset] [(.ref b9)])) (fun tgt cont => ?_) ?_
        · refine XS.lload X39.here hx rfl (hb hby at_195) rfl ?_
          refine XT.lcmp X39.here hx rfl (hb hby at_197) rfl ?_
          refine XS.ifNo X39.here hx rfl (hb hby at_198) rfl (XT.ll_ne_f (by subst hw29 hv34 hv21 hr33 hv20 hr18 hw14 hw16; exact own_eq2 r4 r2 )) ?_
          refine XS.aload X39.here hx rfl (hb hby at_201) rfl rfl ?_
          exact cont
        -- pc 203: TextPosition.column
        obtain ⟨cq40, kq40, qa40, qb40, qc40⟩ := isOf hZ e39 ex28_0
        obtain ⟨_, _, ⟨T40, L40, k40, n40⟩, -, X40, ⟨Lc40, hQ40, l40, y40, z40⟩, st40⟩ := X39.virtualBack hx (y := (⟨"com/example/pandect/pandect/text/TextPosition", "column", "()J"⟩ : MethodName)) (z := (⟨"com/example/pandect/pandect/text/TextPosition", "column", "()J"⟩ : MethodName)) hown (mvT hZ (hw _ (List.mem_of_getElem? (i := 22) rfl))) (mvT hZ (hw _ (List.mem_of_getElem? (i := 23) rfl))) (notFace_of_selects (args := #[]) (mvT hZ (hw _ (List.mem_of_getElem? (i := 25) rfl)))) (mvT hZ (hw _ (List.mem_of_getElem? (i := 25) rfl))) (mvT hZ (hw _ (List.mem_of_getElem? (i := 24) rfl))) (by decide) (backOf (W := 0) (rm5 l Z a0 hw [] b9 w30 T28.heap n0 zp28 ex28_0 fa28_1) hZ (hw _ (List.mem_of_getElem? (i := 26) rfl)) (hw _ (List.mem_of_getElem? (i := 6) rfl)) (by decide) (by decide)) qa40 qc40 (g := (mkF m 203 #[.val (.int p1), .val (.int p2), .val (.int p3), .val (.int p4), .val (.int r2), .val (.int r4), .val (.int r6), .val (.int r8), .val (.ref b9), .val (.int (1 : Int32)), .val (.long v21), .second, .val (.long v25), .second, .val (.long v34), .second, .val (.long v38), .second, .unset, .unset, .unset, .unset, .unset, .unset, .unset, .unset] [(.ref b9)])) rfl (by rw [hml]; rfl) (Steps.refl _) (argsL := []) (rest := []) (lenOf own_pd2 rfl) rfl (by show 2 * 0 + _ ≤ _; exact Nat.le_of_eq rfl) (hb hby at_203) (fun _ _ => ⟨rfl, e39, (by decide : 1 + 0 + 0 ≤ _), (by decide : 3 + 0 + 0 ≤ _)⟩)
        dsimp only [Pt.U, Pt.locs, Pt.cells, Pt.slots] at X40 l40 y40 z40 st40 hQ40
        subst l40 y40 z40
        obtain ⟨rfl, N40q, e40⟩ := hQ40
        have N40 := Fr.app N39 N40q
        refine own_go (fun tgt cont => st40.trans cont) ?_
        show own_Go p e below s (Q0 n0) room_1.cells room_1.slots (T40.setTop (mkF m 206 #[.val (.int p1), .val (.int p2), .val (.int p3), .val (.int p4), .val (.int r2), .val (.int r4), .val (.int r6), .val (.int r8), .val (.ref b9), .val (.int (1 : Int32)), .val (.long v21), .second, .val (.long v25), .second, .val (.long v34), .second, .val (.long v38), .second, .unset, .unset, .unset, .unset, .unset, .unset, .unset, .unset] [(.long w30)]))
        refine own_go (B := T40.setTop (mkF m 223 #[.val (.int p1), .val (.int p2), .val (.int p3), .val (.int p4), .val (.int r2), .val (.int r4), .val (.int r6), .val (.int r8), .val (.ref b9), .val (.int (1 : Int32)), .val (.long v21), .second, .val (.long v25), .second, .val (.long v34), .second, .val (.long v38), .second, .unset, .unset, .unset, .unset, .unset, .unset, .unset, .unset] [(.int r6), (.ref b9)])) (fun tgt cont => ?_) ?_
        · refine XS.lload X40.here hx rfl (hb hby at_206) rfl ?_
          refine XT.lcmp X40.here hx rfl (hb hby at_208) rfl ?_
          refine XS.ifNo X40.here hx rfl (hb hby at_209) rfl (XT.ll_ne_f (by subst hw30 hv38 hr36 hw15 hw16; exact own_eq3 r4 r2 )) ?_
          refine XT.iconstV X40.here hx rfl (1 : Int32) (hb hby at_212) rfl ?_
          refine XS.goto X40.here hx rfl (pc0 := 213) (pc' := 217) rfl (hb hby at_213) (by decide) (by decide) ?_
          refine XS.istore X40.here hx rfl (hb hby at_217) rfl (l' := #[.val (.int p1), .val (.int p2), .val (.int p3), .val (.int p4), .val (.int r2), .val (.int r4), .val (.int r6), .val (.int r8), .val (.ref b9), .val (.int (1 : Int32)), .val (.long v21), .second, .val (.long v25), .second, .val (.long v34), .second, .val (.long v38), .second, .unset, .unset, .unset, .unset, .unset, .unset, .unset, .unset]) rfl ?_
          refine XS.aload X40.here hx rfl (hb hby at_219) rfl rfl ?_
          refine XS.iload X40.here hx rfl (hb hby at_221) rfl ?_
          exact cont
        -- pc 223: TextPosition.advance
        obtain ⟨cq41, kq41, qa41, qb41, qc41⟩ := isOf hZ e40 ex28_0
        obtain ⟨_, _, ⟨T41, L41, k41, n41⟩, -, X41, ⟨Lc41, hQ41, l41, y41, z41⟩, st41⟩ := X40.virtualBack hx (y := (⟨"com/example/pandect/pandect/text/TextPosition", "advance", "(I)V"⟩ : MethodName)) (z := (⟨"com/example/pandect/pandect/text/TextPosition", "advance", "(I)V"⟩ : MethodName)) hown (mvT hZ (hw _ (List.mem_of_getElem? (i := 27) rfl))) (mvT hZ (hw _ (List.mem_of_getElem? (i := 28) rfl))) (notFace_of_selects (args := #[]) (mvT hZ (hw _ (List.mem_of_getElem? (i := 30) rfl)))) (mvT hZ (hw _ (List.mem_of_getElem? (i := 30) rfl))) (mvT hZ (hw _ (List.mem_of_getElem? (i := 29) rfl))) (by decide) (backOf (W := 0) (rm6 l Z a0 hw [] b9 r6 w29 w30 w31 T28.heap n0 zp28 ex28_0 fa28_0 fa28_1 fa28_2 g_b9) hZ (hw _ (List.mem_of_getElem? (i := 31) rfl)) (hw _ (List.mem_of_getElem? (i := 6) rfl)) (by decide) (by decide)) qa41 qc41 (g := (mkF m 223 #[.val (.int p1), .val (.int p2), .val (.int p3), .val (.int p4), .val (.int r2), .val (.int r4), .val (.int r6), .val (.int r8), .val (.ref b9), .val (.int (1 : Int32)), .val (.long v21), .second, .val (.long v25), .second, .val (.long v34), .second, .val (.long v38), .second, .unset, .unset, .unset, .unset, .unset, .unset, .unset, .unset] [(.int r6), (.ref b9)])) rfl (by rw [hml]; rfl) (Steps.refl _) (argsL := [(.int r6)]) (rest := []) (lenOf own_pd3 rfl) rfl (by show 2 * 0 + _ ≤ _; exact Nat.le_of_eq rfl) (hb hby at_223) (fun _ _ => ⟨rfl, e40, (by decide : 1 + 0 + 0 + 0 ≤ _), (by decide : 3 + 0 + 0 + 0 ≤ _)⟩)
        dsimp only [Pt.U, Pt.locs, Pt.cells, Pt.slots] at X41 l41 y41 z41 st41 hQ41
        subst l41 y41 z41
        obtain ⟨rfl, N41q, K41, ex41_0, fa41_0, fa41_1, fa41_2⟩ := hQ41
        have N41 := Fr.app N40 N41q
        have kk41 : Keep h0 T41.heap [] := kk28.trans K41 (allS (Or.inr sz_b9) all0)
        have zp41 : n0 ≤ T41.heap.size := Nat.le_trans Z0 kk41.1
        generalize hw42 : (own_adv_line r6 w29 w31) = w42 at fa41_0
        generalize hw43 : (own_adv_column r6 w30 w31) = w43 at fa41_1
        generalize hw44 : (own_adv_afterCarriageReturn r6) = w44 at fa41_2
        refine own_go (fun tgt cont => st41.trans cont) ?_
        show own_Go p e below s (Q0 n0) room_1.cells room_1.slots (T41.setTop (mkF m 226 #[.val (.int p1), .val (.int p2), .val (.int p3), .val (.int p4), .val (.int r2), .val (.int r4), .val (.int r6), .val (.int r8), .val (.ref b9), .val (.int (1 : Int32)), .val (.long v21), .second, .val (.long v25), .second, .val (.long v34), .second, .val (.long v38), .second, .unset, .unset, .unset, .unset, .unset, .unset, .unset, .unset] []))
        refine own_go (B := T41.setTop (mkF m 232 #[.val (.int p1), .val (.int p2), .val (.int p3), .val (.int p4), .val (.int r2), .val (.int r4), .val (.int r6), .val (.int r8), .val (.ref b9), .val (.int (1 : Int32)), .val (.long v21), .second, .val (.long v25), .second, .val (.long v34), .second, .val (.long v38), .second, .unset, .unset, .unset, .unset, .unset, .unset, .unset, .unset] [(.int r6), (.int r4), (.long v34)])) (fun tgt cont => ?_) ?_
        · refine XS.lload X41.here hx rfl (hb hby at_226) rfl ?_
          refine XS.iload X41.here hx rfl (hb hby at_228) rfl ?_
          refine XS.iload X41.here hx rfl (hb hby at_230) rfl ?_
          exact cont
        -- pc 232: TextPositionAdvancePinLaw.brk
        obtain ⟨_, _, ⟨T45, L45, k45, n45⟩, -, X45, ⟨Lc45, hQ45, l45, y45, z45⟩, st45⟩ := Jvm.LawKit.callS X41 hx (y := (⟨"com/example/pandect/pandect/text/TextPositionAdvancePinLaw", "brk", "(II)J"⟩ : MethodName)) hown (mvT hZ (hw _ (List.mem_of_getElem? (i := 37) rfl))) (mvT hZ (hw _ (List.mem_of_getElem? (i := 38) rfl))) (mvT hZ (hw _ (List.mem_of_getElem? (i := 2) rfl))) (mvT hZ (hw _ (List.mem_of_getElem? (i := 39) rfl))) (by decide) (backOf (W := 2) (rm8 l Z a0 hw [] r4 r6 T41.heap n0 zp41 ) hZ (hw _ (List.mem_of_getElem? (i := 39) rfl)) (hw _ (List.mem_of_getElem? (i := 2) rfl)) (by decide) (by decide)) (g := (mkF m 232 #[.val (.int p1), .val (.int p2), .val (.int p3), .val (.int p4), .val (.int r2), .val (.int r4), .val (.int r6), .val (.int r8), .val (.ref b9), .val (.int (1 : Int32)), .val (.long v21), .second, .val (.long v25), .second, .val (.long v34), .second, .val (.long v38), .second, .unset, .unset, .unset, .unset, .unset, .unset, .unset, .unset] [(.int r6), (.int r4), (.long v34)])) rfl (by rw [hml]; rfl) (argsL := [(.int r4), (.int r6)]) (rest := [(.long v34)]) (lenOf own_pd5 rfl) rfl (by show 2 * 0 + _ ≤ _; exact Nat.le_of_eq rfl) (hb hby at_232) (fun _ _ => ⟨rfl, rfl, (by decide : 1 + 0 + 0 + 0 + 0 ≤ _), (by decide : 3 + 0 + 0 + 0 + 0 ≤ _)⟩)
        dsimp only [Pt.U, Pt.locs, Pt.cells, Pt.slots] at X45 l45 y45 z45 st45 hQ45
        subst l45 y45 z45
        obtain ⟨rfl, N45q, e45⟩ := hQ45
        have N45 := Fr.app N41 N45q
        refine own_go (fun tgt cont => st45 tgt cont) ?_
        show own_Go p e below s (Q0 n0) room_1.cells room_1.slots (T45.setTop (mkF m 235 #[.val (.int p1), .val (.int p2), .val (.int p3), .val (.int p4), .val (.int r2), .val (.int r4), .val (.int r6), .val (.int r8), .val (.ref b9), .val (.int (1 : Int32)), .val (.long v21), .second, .val (.long v25), .second, .val (.long v34), .second, .val (.long v38), .second, .unset, .unset, .unset, .unset, .unset, .unset, .unset, .unset] [(.long (own_brk r4 r6)), (.long v34)]))
        generalize hr46 : (own_brk r4 r6) = r46
        refine own_go (B := T45.setTop (mkF m 236 #[.val (.int p1), .val (.int p2), .val (.int p3), .val (.int p4), .val (.int r2), .val (.int r4), .val (.int r6), .val (.int r8), .val (.ref b9), .val (.int (1 : Int32)), .val (.long v21), .second, .val (.long v25), .second, .val (.long v34), .second, .val (.long v38), .second, .unset, .unset, .unset, .unset, .unset, .unset, .unset, .unset] [(.long (v34 + r46))])) (fun tgt cont => ?_) ?_
        · refine XS.ladd X45.here hx rfl (hb hby at_235) rfl ?_
          exact cont
        generalize hv47 : (v34 + r46) = v47
        refine own_go (B := T45.setTop (mkF m 240 #[.val (.int p1), .val (.int p2), .val (.int p3), .val (.int p4), .val (.int r2), .val (.int r4), .val (.int r6), .val (.int r8), .val (.ref b9), .val (.int (1 : Int32)), .val (.long v21), .second, .val (.long v25), .second, .val (.long v34), .second, .val (.long v38), .second, .val (.long v47), .second, .unset, .unset, .unset, .unset, .unset, .unset] [(.int r6)])) (fun tgt cont => ?_) ?_
        · refine XS.lstore X45.here hx rfl (hb hby at_236) rfl (l' := #[.val (.int p1), .val (.int p2), .val (.int p3), .val (.int p4), .val (.int r2), .val (.int r4), .val (.int r6), .val (.int r8), .val (.ref b9), .val (.int (1 : Int32)), .val (.long v21), .second, .val (.long v25), .second, .val (.long v34), .second, .val (.long v38), .second, .val (.long v47), .second, .unset, .unset, .unset, .unset, .unset, .unset]) rfl ?_
          refine XS.iload X45.here hx rfl (hb hby at_238) rfl ?_
          exact cont
        -- pc 240: TextPositionAdvancePinLaw.eol
        obtain ⟨_, _, ⟨T48, L48, k48, n48⟩, -, X48, ⟨Lc48, hQ48, l48, y48, z48⟩, st48⟩ := Jvm.LawKit.callS X45 hx (y := (⟨"com/example/pandect/pandect/text/TextPositionAdvancePinLaw", "eol", "(I)Z"⟩ : MethodName)) hown (mvT hZ (hw _ (List.mem_of_getElem? (i := 34) rfl))) (mvT hZ (hw _ (List.mem_of_getElem? (i := 35) rfl))) (mvT hZ (hw _ (List.mem_of_getElem? (i := 2) rfl))) (mvT hZ (hw _ (List.mem_of_getElem? (i := 36) rfl))) (by decide) (backOf (W := 0) (rm7 l Z a0 hw [] r6 T41.heap n0 zp41 ) hZ (hw _ (List.mem_of_getElem? (i := 36) rfl)) (hw _ (List.mem_of_getElem? (i := 2) rfl)) (by decide) (by decide)) (g := (mkF m 240 #[.val (.int p1), .val (.int p2), .val (.int p3), .val (.int p4), .val (.int r2), .val (.int r4), .val (.int r6), .val (.int r8), .val (.ref b9), .val (.int (1 : Int32)), .val (.long v21), .second, .val (.long v25), .second, .val (.long v34), .second, .val (.long v38), .second, .val (.long v47), .second, .unset, .unset, .unset, .unset, .unset, .unset] [(.int r6)])) rfl (by rw [hml]; rfl) (argsL := [(.int r6)]) (rest := []) (lenOf own_pd4 rfl) rfl (by show 2 * 0 + _ ≤ _; exact Nat.le_of_eq rfl) (hb hby at_240) (fun _ _ => ⟨rfl, e45, (by decide : 1 + 0 + 0 + 0 + 0 + 0 ≤ _), (by decide : 3 + 0 + 0 + 0 + 0 + 0 ≤ _)⟩)
        dsimp only [Pt.U, Pt.locs, Pt.cells, Pt.slots] at X48 l48 y48 z48 st48 hQ48
        subst l48 y48 z48
        obtain ⟨rfl, N48q, e48⟩ := hQ48
        have N48 := Fr.app N45 N48q
        refine own_go (fun tgt cont => st48 tgt cont) ?_
        show own_Go p e below s (Q0 n0) room_1.cells room_1.slots (T48.setTop (mkF m 243 #[.val (.int p1), .val (.int p2), .val (.int p3), .val (.int p4), .val (.int r2), .val (.int r4), .val (.int r6), .val (.int r8), .val (.ref b9), .val (.int (1 : Int32)), .val (.long v21), .second, .val (.long v25), .second, .val (.long v34), .second, .val (.long v38), .second, .val (.long v47), .second, .unset, .unset, .unset, .unset, .unset, .unset] [(.int (own_eol r6))]))
        generalize hr49 : (own_eol r6) = r49
        have K50 : ∀ (T50 : State) (L50 : List Loc) (v51 : Int64) (X50 : Stand p l e room_1 s m #[(.int p1), (.int p2), (.int p3), (.int p4)] below meth c T50 L50 1 3) (e50 : T50.heap = T41.heap) (N50 : Fr n0 L50) (hv51 : v51 = (if r49 = 0 then (if ((own_eol r4)) = 0 then (if ((own_eol r2)) = 0 then (4 : Int64) else (3 : Int64)) else (2 : Int64)) else (1 : Int64))), own_Go p e below s (Q0 n0) room_1.cells room_1.slots (T50.setTop (mkF m 281 #[.val (.int p1), .val (.int p2), .val (.int p3), .val (.int p4), .val (.int r2), .val (.int r4), .val (.int r6), .val (.int r8), .val (.ref b9), .val (.int (1 : Int32)), .val (.long v21), .second, .val (.long v25), .second, .val (.long v34), .second, .val (.long v38), .second, .val (.long v47), .second, .unset, .unset, .unset, .unset, .unset, .unset] [(.long v51)])) := by
          intro T50 L50 v51 X50 e50 N50 hv51
          refine own_go (B := T50.setTop (mkF m 290 #[.val (.int p1), .val (.int p2), .val (.int p3), .val (.int p4), .val (.int r2), .val (.int r4), .val (.int r6), .val (.int r8), .val (.ref b9), .val (.int (1 : Int32)), .val (.long v21), .second, .val (.long v25), .second, .val (.long v34), .second, .val (.long v38), .second, .val (.long v47), .second, .val (.long v51), .second, .unset, .unset, .unset, .unset] [(.ref b9)])) (fun tgt cont => ?_) ?_
          · refine XS.lstore X50.here hx rfl (hb hby at_281) rfl (l' := #[.val (.int p1), .val (.int p2), .val (.int p3), .val (.int p4), .val (.int r2), .val (.int r4), .val (.int r6), .val (.int r8), .val (.ref b9), .val (.int (1 : Int32)), .val (.long v21), .second, .val (.long v25), .second, .val (.long v34), .second, .val (.long v38), .second, .val (.long v47), .second, .val (.long v51), .second, .unset, .unset, .unset, .unset]) rfl ?_
            refine XS.iload X50.here hx rfl (hb hby at_283) rfl ?_
            refine XS.ifNo X50.here hx rfl (hb hby at_285) rfl (XT.i0_eq_f (by decide)) ?_
            refine XS.aload X50.here hx rfl (hb hby at_288) rfl rfl ?_
            exact cont
          -- pc 290: TextPosition.line
          obtain ⟨cq52, kq52, qa52, qb52, qc52⟩ := isOf hZ e50 ex41_0
          obtain ⟨_, _, ⟨T52, L52, k52, n52⟩, -, X52, ⟨Lc52, hQ52, l52, y52, z52⟩, st52⟩ := X50.virtualBack hx (y := (⟨"com/example/pandect/pandect/text/TextPosition", "line", "()J"⟩ : MethodName)) (z := (⟨"com/example/pandect/pandect/text/TextPosition", "line", "()J"⟩ : MethodName)) hown (mvT hZ (hw _ (List.mem_of_getElem? (i := 17) rfl))) (mvT hZ (hw _ (List.mem_of_getElem? (i := 18) rfl))) (notFace_of_selects (args := #[]) (mvT hZ (hw _ (List.mem_of_getElem? (i := 20) rfl)))) (mvT hZ (hw _ (List.mem_of_getElem? (i := 20) rfl))) (mvT hZ (hw _ (List.mem_of_getElem? (i := 19) rfl))) (by decide) (backOf (W := 0) (rm4 l Z a0 hw [] b9 w42 T41.heap n0 zp41 ex41_0 fa41_0) hZ (hw _ (List.mem_of_getElem? (i := 21) rfl)) (hw _ (List.mem_of_getElem? (i := 6) rfl)) (by decide) (by decide)) qa52 qc52 (g := (mkF m 290 #[.val (.int p1), .val (.int p2), .val (.int p3), .val (.int p4), .val (.int r2), .val (.int r4), .val (.int r6), .val (.int r8), .val (.ref b9), .val (.int (1 : Int32)), .val (.long v21), .second, .val (.long v25), .second, .val (.long v34), .second, .val (.long v38), .second, .val (.long v47), .second, .val (.long v51), .second, .unset, .unset, .unset, .unset] [(.ref b9)])) rfl (by rw [hml]; rfl) (Steps.refl _) (argsL := []) (rest := []) (lenOf own_pd2 rfl) rfl (by show 2 * 0 + _ ≤ _; exact Nat.le_of_eq rfl) (hb hby at_290) (fun _ _ => ⟨rfl, e50, (by decide : 1 + 0 ≤ _), (by decide : 3 + 0 ≤ _)⟩)
          dsimp only [Pt.U, Pt.locs, Pt.cells, Pt.slots] at X52 l52 y52 z52 st52 hQ52
          subst l52 y52 z52
          obtain ⟨rfl, N52q, e52⟩ := hQ52
          have N52 := Fr.app N50 N52q
          refine own_go (fun tgt cont => st52.trans cont) ?_
          show own_Go p e below s (Q0 n0) room_1.cells room_1.slots (T52.setTop (mkF m 293 #[.val (.int p1), .val (.int p2), .val (.int p3), .val (.int p4), .val (.int r2), .val (.int r4), .val (.int r6), .val (.int r8), .val (.ref b9), .val (.int (1 : Int32)), .val (.long v21), .second, .val (.long v25), .second, .val (.long v34), .second, .val (.long v38), .second, .val (.long v47), .second, .val (.long v51), .second, .unset, .unset, .unset, .unset] [(.long w42)]))
          refine own_go (B := T52.setTop (mkF m 301 #[.val (.int p1), .val (.int p2), .val (.int p3), .val (.int p4), .val (.int r2), .val (.int r4), .val (.int r6), .val (.int r8), .val (.ref b9), .val (.int (1 : Int32)), .val (.long v21), .second, .val (.long v25), .second, .val (.long v34), .second, .val (.long v38), .second, .val (.long v47), .second, .val (.long v51), .second, .unset, .unset, .unset, .unset] [(.ref b9)])) (fun tgt cont => ?_) ?_
          · refine XS.lload X52.here hx rfl (hb hby at_293) rfl ?_
            refine XT.lcmp X52.here hx rfl (hb hby at_295) rfl ?_
            refine XS.ifNo X52.here hx rfl (hb hby at_296) rfl (XT.ll_ne_f (by subst hw42 hv47 hv34 hr46 hv21 hr33 hv20 hr18 hw29 hw31 hw14 hw16; exact own_eq4 r6 r4 r2 )) ?_
            refine XS.aload X52.here hx rfl (hb hby at_299) rfl rfl ?_
            exact cont
          -- pc 301: TextPosition.column
          obtain ⟨cq53, kq53, qa53, qb53, qc53⟩ := isOf hZ e52 ex41_0
          obtain ⟨_, _, ⟨T53, L53, k53, n53⟩, -, X53, ⟨Lc53, hQ53, l53, y53, z53⟩, st53⟩ := X52.virtualBack hx (y := (⟨"com/example/pandect/pandect/text/TextPosition", "column", "()J"⟩ : MethodName)) (z := (⟨"com/example/pandect/pandect/text/TextPosition", "column", "()J"⟩ : MethodName)) hown (mvT hZ (hw _ (List.mem_of_getElem? (i := 22) rfl))) (mvT hZ (hw _ (List.mem_of_getElem? (i := 23) rfl))) (notFace_of_selects (args := #[]) (mvT hZ (hw _ (List.mem_of_getElem? (i := 25) rfl)))) (mvT hZ (hw _ (List.mem_of_getElem? (i := 25) rfl))) (mvT hZ (hw _ (List.mem_of_getElem? (i := 24) rfl))) (by decide) (backOf (W := 0) (rm5 l Z a0 hw [] b9 w43 T41.heap n0 zp41 ex41_0 fa41_1) hZ (hw _ (List.mem_of_getElem? (i := 26) rfl)) (hw _ (List.mem_of_getElem? (i := 6) rfl)) (by decide) (by decide)) qa53 qc53 (g := (mkF m 301 #[.val (.int p1), .val (.int p2), .val (.int p3), .val (.int p4), .val (.int r2), .val (.int r4), .val (.int r6), .val (.int r8), .val (.ref b9), .val (.int (1 : Int32)), .val (.long v21), .second, .val (.long v25), .second, .val (.long v34), .second, .val (.long v38), .second, .val (.long v47), .second, .val (.long v51), .second, .unset, .unset, .unset, .unset] [(.ref b9)])) rfl (by rw [hml]; rfl) (Steps.refl _) (argsL := []) (rest := []) (lenOf own_pd2 rfl) rfl (by show 2 * 0 + _ ≤ _; exact Nat.le_of_eq rfl) (hb hby at_301) (fun _ _ => ⟨rfl, e52, (by decide : 1 + 0 + 0 ≤ _), (by decide : 3 + 0 + 0 ≤ _)⟩)
          dsimp only [Pt.U, Pt.locs, Pt.cells, Pt.slots] at X53 l53 y53 z53 st53 hQ53
          subst l53 y53 z53
          obtain ⟨rfl, N53q, e53⟩ := hQ53
          have N53 := Fr.app N52 N53q
          refine own_go (fun tgt cont => st53.trans cont) ?_
          show own_Go p e below s (Q0 n0) room_1.cells room_1.slots (T53.setTop (mkF m 304 #[.val (.int p1), .val (.int p2), .val (.int p3), .val (.int p4), .val (.int r2), .val (.int r4), .val (.int r6), .val (.int r8), .val (.ref b9), .val (.int (1 : Int32)), .val (.long v21), .second, .val (.long v25), .second, .val (.long v34), .second, .val (.long v38), .second, .val (.long v47), .second, .val (.long v51), .second, .unset, .unset, .unset, .unset] [(.long w43)]))
          refine own_go (B := T53.setTop (mkF m 321 #[.val (.int p1), .val (.int p2), .val (.int p3), .val (.int p4), .val (.int r2), .val (.int r4), .val (.int r6), .val (.int r8), .val (.ref b9), .val (.int (1 : Int32)), .val (.long v21), .second, .val (.long v25), .second, .val (.long v34), .second, .val (.long v38), .second, .val (.long v47), .second, .val (.long v51), .second, .unset, .unset, .unset, .unset] [(.int r8), (.ref b9)])) (fun tgt cont => ?_) ?_
          · refine XS.lload X53.here hx rfl (hb hby at_304) rfl ?_
            refine XT.lcmp X53.here hx rfl (hb hby at_306) rfl ?_
            refine XS.ifNo X53.here hx rfl (hb hby at_307) rfl (XT.ll_ne_f (by subst hw43 hv51 hr49 hw30 hw31 hw15 hw16; exact own_eq5 r6 r4 r2 )) ?_
            refine XT.iconstV X53.here hx rfl (1 : Int32) (hb hby at_310) rfl ?_
            refine XS.goto X53.here hx rfl (pc0 := 311) (pc' := 315) rfl (hb hby at_311) (by decide) (by decide) ?_
            refine XS.istore X53.here hx rfl (hb hby at_315) rfl (l' := #[.val (.int p1), .val (.int p2), .val (.int p3), .val (.int p4), .val (.int r2), .val (.int r4), .val (.int r6), .val (.int r8), .val (.ref b9), .val (.int (1 : Int32)), .val (.long v21), .second, .val (.long v25), .second, .val (.long v34), .second, .val (.long v38), .second, .val (.long v47), .second, .val (.long v51), .second, .unset, .unset, .unset, .unset]) rfl ?_
            refine XS.aload X53.here hx rfl (hb hby at_317) rfl rfl ?_
            refine XS.iload X53.here hx rfl (hb hby at_319) rfl ?_
            exact cont
          -- pc 321: TextPosition.advance
          obtain ⟨cq54, kq54, qa54, qb54, qc54⟩ := isOf hZ e53 ex41_0
          obtain ⟨_, _, ⟨T54, L54, k54, n54⟩, -, X54, ⟨Lc54, hQ54, l54, y54, z54⟩, st54⟩ := X53.virtualBack hx (y := (⟨"com/example/pandect/pandect/text/TextPosition", "advance", "(I)V"⟩ : MethodName)) (z := (⟨"com/example/pandect/pandect/text/TextPosition", "advance", "(I)V"⟩ : MethodName)) hown (mvT hZ (hw _ (List.mem_of_getElem? (i := 27) rfl))) (mvT hZ (hw _ (List.mem_of_getElem? (i := 28) rfl))) (notFace_of_selects (args := #[]) (mvT hZ (hw _ (List.mem_of_getElem? (i := 30) rfl)))) (mvT hZ (hw _ (List.mem_of_getElem? (i := 30) rfl))) (mvT hZ (hw _ (List.mem_of_getElem? (i := 29) rfl))) (by decide) (backOf (W := 0) (rm6 l Z a0 hw [] b9 r8 w42 w43 w44 T41.heap n0 zp41 ex41_0 fa41_0 fa41_1 fa41_2 g_b9) hZ (hw _ (List.mem_of_getElem? (i := 31) rfl)) (hw _ (List.mem_of_getElem? (i := 6) rfl)) (by decide) (by decide)) qa54 qc54 (g := (mkF m 321 #[.val (.int p1), .val (.int p2), .val (.int p3), .val (.int p4), .val (.int r2), .val (.int r4), .val (.int r6), .val (.int r8), .val (.ref b9), .val (.int (1 : Int32)), .val (.long v21), .second, .val (.long v25), .second, .val (.long v34), .second, .val (.long v38), .second, .val (.long v47), .second, .val (.long v51), .second, .unset, .unset, .unset, .unset] [(.int r8), (.ref b9)])) rfl (by rw [hml]; rfl) (Steps.refl _) (argsL := [(.int r8)]) (rest := []) (lenOf own_pd3 rfl) rfl (by show 2 * 0 + _ ≤ _; exact Nat.le_of_eq rfl) (hb hby at_321) (fun _ _ => ⟨rfl, e53, (by decide : 1 + 0 + 0 + 0 ≤ _), (by decide : 3 + 0 + 0 + 0 ≤ _)⟩)
          dsimp only [Pt.U, Pt.locs, Pt.cells, Pt.slots] at X54 l54 y54 z54 st54 hQ54
          subst l54 y54 z54
          obtain ⟨rfl, N54q, K54, ex54_0, fa54_0, fa54_1, fa54_2⟩ := hQ54
          have N54 := Fr.app N53 N54q
          have kk54 : Keep h0 T54.heap [] := kk41.trans K54 (allS (Or.inr sz_b9) all0)
          have zp54 : n0 ≤ T54.heap.size := Nat.le_trans Z0 kk54.1
          generalize hw55 : (own_adv_line r8 w42 w44) = w55 at fa54_0
          generalize hw56 : (own_adv_column r8 w43 w44) = w56 at fa54_1
          generalize hw57 : (own_adv_afterCarriageReturn r8) = w57 at fa54_2
          refine own_go (fun tgt cont => st54.trans cont) ?_
          show own_Go p e below s (Q0 n0) room_1.cells room_1.slots (T54.setTop (mkF m 324 #[.val (.int p1), .val (.int p2), .val (.int p3), .val (.int p4), .val (.int r2), .val (.int r4), .val (.int r6), .val (.int r8), .val (.ref b9), .val (.int (1 : Int32)), .val (.long v21), .second, .val (.long v25), .second, .val (.long v34), .second, .val (.long v38), .second, .val (.long v47), .second, .val (.long v51), .second, .unset, .unset, .unset, .unset] []))
          refine own_go (B := T54.setTop (mkF m 330 #[.val (.int p1), .val (.int p2), .val (.int p3), .val (.int p4), .val (.int r2), .val (.int r4), .val (.int r6), .val (.int r8), .val (.ref b9), .val (.int (1 : Int32)), .val (.long v21), .second, .val (.long v25), .second, .val (.long v34), .second, .val (.long v38), .second, .val (.long v47), .second, .val (.long v51), .second, .unset, .unset, .unset, .unset] [(.int r8), (.int r6), (.long v47)])) (fun tgt cont => ?_) ?_
          · refine XS.lload X54.here hx rfl (hb hby at_324) rfl ?_
            refine XS.iload X54.here hx rfl (hb hby at_326) rfl ?_
            refine XS.iload X54.here hx rfl (hb hby at_328) rfl ?_
            exact cont
          -- pc 330: TextPositionAdvancePinLaw.brk
          obtain ⟨_, _, ⟨T58, L58, k58, n58⟩, -, X58, ⟨Lc58, hQ58, l58, y58, z58⟩, st58⟩ := Jvm.LawKit.callS X54 hx (y := (⟨"com/example/pandect/pandect/text/TextPositionAdvancePinLaw", "brk", "(II)J"⟩ : MethodName)) hown (mvT hZ (hw _ (List.mem_of_getElem? (i := 37) rfl))) (mvT hZ (hw _ (List.mem_of_getElem? (i := 38) rfl))) (mvT hZ (hw _ (List.mem_of_getElem? (i := 2) rfl))) (mvT hZ (hw _ (List.mem_of_getElem? (i := 39) rfl))) (by decide) (backOf (W := 2) (rm8 l Z a0 hw [] r6 r8 T54.heap n0 zp54 ) hZ (hw _ (List.mem_of_getElem? (i := 39) rfl)) (hw _ (List.mem_of_getElem? (i := 2) rfl)) (by decide) (by decide)) (g := (mkF m 330 #[.val (.int p1), .val (.int p2), .val (.int p3), .val (.int p4), .val (.int r2), .val (.int r4), .val (.int r6), .val (.int r8), .val (.ref b9), .val (.int (1 : Int32)), .val (.long v21), .second, .val (.long v25), .second, .val (.long v34), .second, .val (.long v38), .second, .val (.long v47), .second, .val (.long v51), .second, .unset, .unset, .unset, .unset] [(.int r8), (.int r6), (.long v47)])) rfl (by rw [hml]; rfl) (argsL := [(.int r6), (.int r8)]) (rest := [(.long v47)]) (lenOf own_pd5 rfl) rfl (by show 2 * 0 + _ ≤ _; exact Nat.le_of_eq rfl) (hb hby at_330) (fun _ _ => ⟨rfl, rfl, (by decide : 1 + 0 + 0 + 0 + 0 ≤ _), (by decide : 3 + 0 + 0 + 0 + 0 ≤ _)⟩)
          dsimp only [Pt.U, Pt.locs, Pt.cells, Pt.slots] at X58 l58 y58 z58 st58 hQ58
          subst l58 y58 z58
          obtain ⟨rfl, N58q, e58⟩ := hQ58
          have N58 := Fr.app N54 N58q
          refine own_go (fun tgt cont => st58 tgt cont) ?_
          show own_Go p e below s (Q0 n0) room_1.cells room_1.slots (T58.setTop (mkF m 333 #[.val (.int p1), .val (.int p2), .val (.int p3), .val (.int p4), .val (.int r2), .val (.int r4), .val (.int r6), .val (.int r8), .val (.ref b9), .val (.int (1 : Int32)), .val (.long v21), .second, .val (.long v25), .second, .val (.long v34), .second, .val (.long v38), .second, .val (.long v47), .second, .val (.long v51), .second, .unset, .unset, .unset, .unset] [(.long (own_brk r6 r8)), (.long v47)]))
          generalize hr59 : (own_brk r6 r8) = r59
          refine own_go (B := T58.setTop (mkF m 334 #[.val (.int p1), .val (.int p2), .val (.int p3), .val (.int p4), .val (.int r2), .val (.int r4), .val (.int r6), .val (.int r8), .val (.ref b9), .val (.int (1 : Int32)), .val (.long v21), .second, .val (.long v25), .second, .val (.long v34), .second, .val (.long v38), .second, .val (.long v47), .second, .val (.long v51), .second, .unset, .unset, .unset, .unset] [(.long (v47 + r59))])) (fun tgt cont => ?_) ?_
          · refine XS.ladd X58.here hx rfl (hb hby at_333) rfl ?_
            exact cont
          generalize hv60 : (v47 + r59) = v60
          refine own_go (B := T58.setTop (mkF m 338 #[.val (.int p1), .val (.int p2), .val (.int p3), .val (.int p4), .val (.int r2), .val (.int r4), .val (.int r6), .val (.int r8), .val (.ref b9), .val (.int (1 : Int32)), .val (.long v21), .second, .val (.long v25), .second, .val (.long v34), .second, .val (.long v38), .second, .val (.long v47), .second, .val (.long v51), .second, .val (.long v60), .second, .unset, .unset] [(.int r8)])) (fun tgt cont => ?_) ?_
          · refine XS.lstore X58.here hx rfl (hb hby at_334) rfl (l' := #[.val (.int p1), .val (.int p2), .val (.int p3), .val (.int p4), .val (.int r2), .val (.int r4), .val (.int r6), .val (.int r8), .val (.ref b9), .val (.int (1 : Int32)), .val (.long v21), .second, .val (.long v25), .second, .val (.long v34), .second, .val (.long v38), .second, .val (.long v47), .second, .val (.long v51), .second, .val (.long v60), .second, .unset, .unset]) rfl ?_
            refine XS.iload X58.here hx rfl (hb hby at_336) rfl ?_
            exact cont
          -- pc 338: TextPositionAdvancePinLaw.eol
          obtain ⟨_, _, ⟨T61, L61, k61, n61⟩, -, X61, ⟨Lc61, hQ61, l61, y61, z61⟩, st61⟩ := Jvm.LawKit.callS X58 hx (y := (⟨"com/example/pandect/pandect/text/TextPositionAdvancePinLaw", "eol", "(I)Z"⟩ : MethodName)) hown (mvT hZ (hw _ (List.mem_of_getElem? (i := 34) rfl))) (mvT hZ (hw _ (List.mem_of_getElem? (i := 35) rfl))) (mvT hZ (hw _ (List.mem_of_getElem? (i := 2) rfl))) (mvT hZ (hw _ (List.mem_of_getElem? (i := 36) rfl))) (by decide) (backOf (W := 0) (rm7 l Z a0 hw [] r8 T54.heap n0 zp54 ) hZ (hw _ (List.mem_of_getElem? (i := 36) rfl)) (hw _ (List.mem_of_getElem? (i := 2) rfl)) (by decide) (by decide)) (g := (mkF m 338 #[.val (.int p1), .val (.int p2), .val (.int p3), .val (.int p4), .val (.int r2), .val (.int r4), .val (.int r6), .val (.int r8), .val (.ref b9), .val (.int (1 : Int32)), .val (.long v21), .second, .val (.long v25), .second, .val (.long v34), .second, .val (.long v38), .second, .val (.long v47), .second, .val (.long v51), .second, .val (.long v60), .second, .unset, .unset] [(.int r8)])) rfl (by rw [hml]; rfl) (argsL := [(.int r8)]) (rest := []) (lenOf own_pd4 rfl) rfl (by show 2 * 0 + _ ≤ _; exact Nat.le_of_eq rfl) (hb hby at_338) (fun _ _ => ⟨rfl, e58, (by decide : 1 + 0 + 0 + 0 + 0 + 0 ≤ _), (by decide : 3 + 0 + 0 + 0 + 0 + 0 ≤ _)⟩)
          dsimp only [Pt.U, Pt.locs, Pt.cells, Pt.slots] at X61 l61 y61 z61 st61 hQ61
          subst l61 y61 z61
          obtain ⟨rfl, N61q, e61⟩ := hQ61
          have N61 := Fr.app N58 N61q
          refine own_go (fun tgt cont => st61 tgt cont) ?_
          show own_Go p e below s (Q0 n0) room_1.cells room_1.slots (T61.setTop (mkF m 341 #[.val (.int p1), .val (.int p2), .val (.int p3), .val (.int p4), .val (.int r2), .val (.int r4), .val (.int r6), .val (.int r8), .val (.ref b9), .val (.int (1 : Int32)), .val (.long v21), .second, .val (.long v25), .second, .val (.long v34), .second, .val (.long v38), .second, .val (.long v47), .second, .val (.long v51), .second, .val (.long v60), .second, .unset, .unset] [(.int (own_eol r8))]))
          generalize hr62 : (own_eol r8) = r62
          have K63 : ∀ (T63 : State) (L63 : List Loc) (v64 : Int64) (X63 : Stand p l e room_1 s m #[(.int p1), (.int p2), (.int p3), (.int p4)] below meth c T63 L63 1 3) (e63 : T63.heap = T54.heap) (N63 : Fr n0 L63) (hv64 : v64 = (if r62 = 0 then (if ((own_eol r6)) = 0 then (if ((own_eol r4)) = 0 then (if ((own_eol r2)) = 0 then (5 : Int64) else (4 : Int64)) else (3 : Int64)) else (2 : Int64)) else (1 : Int64))), own_Go p e below s (Q0 n0) room_1.cells room_1.slots (T63.setTop (mkF m 393 #[.val (.int p1), .val (.int p2), .val (.int p3), .val (.int p4), .val (.int r2), .val (.int r4), .val (.int r6), .val (.int r8), .val (.ref b9), .val (.int (1 : Int32)), .val (.long v21), .second, .val (.long v25), .second, .val (.long v34), .second, .val (.long v38), .second, .val (.long v47), .second, .val (.long v51), .second, .val (.long v60), .second, .unset, .unset] [(.long v64)])) := by
            intro T63 L63 v64 X63 e63 N63 hv64
            refine own_go (B := T63.setTop (mkF m 402 #[.val (.int p1), .val (.int p2), .val (.int p3), .val (.int p4), .val (.int r2), .val (.int r4), .val (.int r6), .val (.int r8), .val (.ref b9), .val (.int (1 : Int32)), .val (.long v21), .second, .val (.long v25), .second, .val (.long v34), .second, .val (.long v38), .second, .val (.long v47), .second, .val (.long v51), .second, .val (.long v60), .second, .val (.long v64), .second] [(.ref b9)])) (fun tgt cont => ?_) ?_
            · refine XS.lstore X63.here hx rfl (hb hby at_393) rfl (l' := #[.val (.int p1), .val (.int p2), .val (.int p3), .val (.int p4), .val (.int r2), .val (.int r4), .val (.int r6), .val (.int r8), .val (.ref b9), .val (.int (1 : Int32)), .val (.long v21), .second, .val (.long v25), .second, .val (.long v34), .second, .val (.long v38), .second, .val (.long v47), .second, .val (.long v51), .second, .val (.long v60), .second, .val (.long v64), .second]) rfl ?_
              refine XS.iload X63.here hx rfl (hb hby at_395) rfl ?_
              refine XS.ifNo X63.here hx rfl (hb hby at_397) rfl (XT.i0_eq_f (by decide)) ?_
              refine XS.aload X63.here hx rfl (hb hby at_400) rfl rfl ?_
              exact cont
            -- pc 402: TextPosition.line
            obtain ⟨cq65, kq65, qa65, qb65, qc65⟩ := isOf hZ e63 ex54_0
            obtain ⟨_, _, ⟨T65, L65, k65, n65⟩, -, X65, ⟨Lc65, hQ65, l65, y65, z65⟩, st65⟩ := X63.virtualBack hx (y := (⟨"com/example/pandect/pandect/text/TextPosition", "line", "()J"⟩ : MethodName)) (z := (⟨"com/example/pandect/pandect/text/TextPosition", "line", "()J"⟩ : MethodName)) hown (mvT hZ (hw _ (List.mem_of_getElem? (i := 17) rfl))) (mvT hZ (hw _ (List.mem_of_getElem? (i := 18) rfl))) (notFace_of_selects (args := #[]) (mvT hZ (hw _ (List.mem_of_getElem? (i := 20) rfl)))) (mvT hZ (hw _ (List.mem_of_getElem? (i := 20) rfl))) (mvT hZ (hw _ (List.mem_of_getElem? (i := 19) rfl))) (by decide) (backOf (W := 0) (rm4 l Z a0 hw [] b9 w55 T54.heap n0 zp54 ex54_0 fa54_0) hZ (hw _ (List.mem_of_getElem? (i := 21) rfl)) (hw _ (List.mem_of_getElem? (i := 6) rfl)) (by decide) (by decide)) qa65 qc65 (g := (mkF m 402 #[.val (.int p1), .val (.int p2), .val (.int p3), .val (.int p4), .val (.int r2), .val (.int r4), .val (.int r6), .val (.int r8), .val (.ref b9), .val (.int (1 : Int32)), .val (.long v21), .second, .val (.long v25), .second, .val (.long v34), .second, .val (.long v38), .second, .val (.long v47), .second, .val (.long v51), .second, .val (.long v60), .second, .val (.long v64), .second] [(.ref b9)])) rfl (by rw [hml]; rfl) (Steps.refl _) (argsL := []) (rest := []) (lenOf own_pd2 rfl) rfl (by show 2 * 0 + _ ≤ _; exact Nat.le_of_eq rfl) (hb hby at_402) (fun _ _ => ⟨rfl, e63, (by decide : 1 + 0 ≤ _), (by decide : 3 + 0 ≤ _)⟩)
            dsimp only [Pt.U, Pt.locs, Pt.cells, Pt.slots] at X65 l65 y65 z65 st65 hQ65
            subst l65 y65 z65
            obtain ⟨rfl, N65q, e65⟩ := hQ65
            have N65 := Fr.app N63 N65q
            refine own_go (fun tgt cont => st65.trans cont) ?_
            show own_Go p e below s (Q0 n0) room_1.cells room_1.slots (T65.setTop (mkF m 405 #[.val (.int p1), .val (.int p2), .val (.int p3), .val (.int p4), .val (.int r2), .val (.int r4), .val (.int r6), .val (.int r8), .val (.ref b9), .val (.int (1 : Int32)), .val (.long v21), .second, .val (.long v25), .second, .val (.long v34), .second, .val (.long v38), .second, .val (.long v47), .second, .val (.long v51), .second, .val (.long v60), .second, .val (.long v64), .second] [(.long w55)]))
            refine own_go (B := T65.setTop (mkF m 413 #[.val (.int p1), .val (.int p2), .val (.int p3), .val (.int p4), .val (.int r2), .val (.int r4), .val (.int r6), .val (.int r8), .val (.ref b9), .val (.int (1 : Int32)), .val (.long v21), .second, .val (.long v25), .second, .val (.long v34), .second, .val (.long v38), .second, .val (.long v47), .second, .val (.long v51), .second, .val (.long v60), .second, .val (.long v64), .second] [(.ref b9)])) (fun tgt cont => ?_) ?_
            · refine XS.lload X65.here hx rfl (hb hby at_405) rfl ?_
              refine XT.lcmp X65.here hx rfl (hb hby at_407) rfl ?_
              refine XS.ifNo X65.here hx rfl (hb hby at_408) rfl (XT.ll_ne_f (by subst hw55 hv60 hv47 hr59 hv34 hr46 hv21 hr33 hv20 hr18 hw42 hw44 hw29 hw31 hw14 hw16; exact own_eq6 r8 r6 r4 r2 )) ?_
              refine XS.aload X65.here hx rfl (hb hby at_411) rfl rfl ?_
              exact cont
            -- pc 413: TextPosition.column
            obtain ⟨cq66, kq66, qa66, qb66, qc66⟩ := isOf hZ e65 ex54_0
            obtain ⟨_, _, ⟨T66, L66, k66, n66⟩, -, X66, ⟨Lc66, hQ66, l66, y66, z66⟩, st66⟩ := X65.virtualBack hx (y := (⟨"com/example/pandect/pandect/text/TextPosition", "column", "()J"⟩ : MethodName)) (z := (⟨"com/example/pandect/pandect/text/TextPosition", "column", "()J"⟩ : MethodName)) hown (mvT hZ (hw _ (List.mem_of_getElem? (i := 22) rfl))) (mvT hZ (hw _ (List.mem_of_getElem? (i := 23) rfl))) (notFace_of_selects (args := #[]) (mvT hZ (hw _ (List.mem_of_getElem? (i := 25) rfl)))) (mvT hZ (hw _ (List.mem_of_getElem? (i := 25) rfl))) (mvT hZ (hw _ (List.mem_of_getElem? (i := 24) rfl))) (by decide) (backOf (W := 0) (rm5 l Z a0 hw [] b9 w56 T54.heap n0 zp54 ex54_0 fa54_1) hZ (hw _ (List.mem_of_getElem? (i := 26) rfl)) (hw _ (List.mem_of_getElem? (i := 6) rfl)) (by decide) (by decide)) qa66 qc66 (g := (mkF m 413 #[.val (.int p1), .val (.int p2), .val (.int p3), .val (.int p4), .val (.int r2), .val (.int r4), .val (.int r6), .val (.int r8), .val (.ref b9), .val (.int (1 : Int32)), .val (.long v21), .second, .val (.long v25), .second, .val (.long v34), .second, .val (.long v38), .second, .val (.long v47), .second, .val (.long v51), .second, .val (.long v60), .second, .val (.long v64), .second] [(.ref b9)])) rfl (by rw [hml]; rfl) (Steps.refl _) (argsL := []) (rest := []) (lenOf own_pd2 rfl) rfl (by show 2 * 0 + _ ≤ _; exact Nat.le_of_eq rfl) (hb hby at_413) (fun _ _ => ⟨rfl, e65, (by decide : 1 + 0 + 0 ≤ _), (by decide : 3 + 0 + 0 ≤ _)⟩)
            dsimp only [Pt.U, Pt.locs, Pt.cells, Pt.slots] at X66 l66 y66 z66 st66 hQ66
            subst l66 y66 z66
            obtain ⟨rfl, N66q, e66⟩ := hQ66
            have N66 := Fr.app N65 N66q
            refine own_go (fun tgt cont => st66.trans cont) ?_
            show own_Go p e below s (Q0 n0) room_1.cells room_1.slots (T66.setTop (mkF m 416 #[.val (.int p1), .val (.int p2), .val (.int p3), .val (.int p4), .val (.int r2), .val (.int r4), .val (.int r6), .val (.int r8), .val (.ref b9), .val (.int (1 : Int32)), .val (.long v21), .second, .val (.long v25), .second, .val (.long v34), .second, .val (.long v38), .second, .val (.long v47), .second, .val (.long v51), .second, .val (.long v60), .second, .val (.long v64), .second] [(.long w56)]))
            refine own_go (B := T66.setTop (mkF m 431 #[.val (.int p1), .val (.int p2), .val (.int p3), .val (.int p4), .val (.int r2), .val (.int r4), .val (.int r6), .val (.int r8), .val (.ref b9), .val (.int (1 : Int32)), .val (.long v21), .second, .val (.long v25), .second, .val (.long v34), .second, .val (.long v38), .second, .val (.long v47), .second, .val (.long v51), .second, .val (.long v60), .second, .val (.long v64), .second] [(.int (1 : Int32))])) (fun tgt cont => ?_) ?_
            · refine XS.lload X66.here hx rfl (hb hby at_416) rfl ?_
              refine XT.lcmp X66.here hx rfl (hb hby at_418) rfl ?_
              refine XS.ifNo X66.here hx rfl (hb hby at_419) rfl (XT.ll_ne_f (by subst hw56 hv64 hr62 hw43 hw44 hw30 hw31 hw15 hw16; exact own_eq7 r8 r6 r4 r2 )) ?_
              refine XT.iconstV X66.here hx rfl (1 : Int32) (hb hby at_422) rfl ?_
              refine XS.goto X66.here hx rfl (pc0 := 423) (pc' := 427) rfl (hb hby at_423) (by decide) (by decide) ?_
              refine XS.istore X66.here hx rfl (hb hby at_427) rfl (l' := #[.val (.int p1), .val (.int p2), .val (.int p3), .val (.int p4), .val (.int r2), .val (.int r4), .val (.int r6), .val (.int r8), .val (.ref b9), .val (.int (1 : Int32)), .val (.long v21), .second, .val (.long v25), .second, .val (.long v34), .second, .val (.long v38), .second, .val (.long v47), .second, .val (.long v51), .second, .val (.long v60), .second, .val (.long v64), .second]) rfl ?_
              refine XS.iload X66.here hx rfl (hb hby at_429) rfl ?_
              exact cont
            refine own_end X66 (v := some (.int (1 : Int32))) (fun h => by rw [Bd.returns] at h; cases h) hlk ?_ (by decide) (by decide) (fun fs hl => retN X66 hx (t := .boolean) Bd.returns (by simp) (hb hby at_431) hl)
            exact ⟨rfl, N66⟩
          by_cases hc67 : r62 = 0
          ·
            refine own_go (B := T61.setTop (mkF m 350 #[.val (.int p1), .val (.int p2), .val (.int p3), .val (.int p4), .val (.int r2), .val (.int r4), .val (.int r6), .val (.int r8), .val (.ref b9), .val (.int (1 : Int32)), .val (.long v21), .second, .val (.long v25), .second, .val (.long v34), .second, .val (.long v38), .second, .val (.long v47), .second, .val (.long v51), .second, .val (.long v60), .second, .unset, .unset] [(.int r6)])) (fun tgt cont => ?_) ?_
            · refine XS.ifYes X61.here hx rfl (pc0 := 341) (pc' := 348) rfl (hb hby at_341) rfl (XT.i0_eq_t hc67) (by decide) (by decide) ?_
              refine XS.iload X61.here hx rfl (hb hby at_348) rfl ?_
              exact cont
            -- pc 350: TextPositionAdvancePinLaw.eol
            obtain ⟨_, _, ⟨T68, L68, k68, n68⟩, -, X68, ⟨Lc68, hQ68, l68, y68, z68⟩, st68⟩ := Jvm.LawKit.callS X61 hx (y := (⟨"com/example/pandect/pandect/text/TextPositionAdvancePinLaw", "eol", "(I)Z"⟩ : MethodName)) hown (mvT hZ (hw _ (List.mem_of_getElem? (i := 34) rfl))) (mvT hZ (hw _ (List.mem_of_getElem? (i := 35) rfl))) (mvT hZ (hw _ (List.mem_of_getElem? (i := 2) rfl))) (mvT hZ (hw _ (List.mem_of_getElem? (i := 36) rfl))) (by decide) (backOf (W := 0) (rm7 l Z a0 hw [] r6 T54.heap n0 zp54 ) hZ (hw _ (List.mem_of_getElem? (i := 36) rfl)) (hw _ (List.mem_of_getElem? (i := 2) rfl)) (by decide) (by decide)) (g := (mkF m 350 #[.val (.int p1), .val (.int p2), .val (.int p3), .val (.int p4), .val (.int r2), .val (.int r4), .val (.int r6), .val (.int r8), .val (.ref b9), .val (.int (1 : Int32)), .val (.long v21), .second, .val (.long v25), .second, .val (.long v34), .second, .val (.long v38), .second, .val (.long v47), .second, .val (.long v51), .second, .val (.long v60), .second, .unset, .unset] [(.int r6)])) rfl (by rw [hml]; rfl) (argsL := [(.int r6)]) (rest := []) (lenOf own_pd4 rfl) rfl (by show 2 * 0 + _ ≤ _; exact Nat.le_of_eq rfl) (hb hby at_350) (fun _ _ => ⟨rfl, e61, (by decide : 1 + 0 + 0 + 0 + 0 + 0 + 0 ≤ _), (by decide : 3 + 0 + 0 + 0 + 0 + 0 + 0 ≤ _)⟩)
            dsimp only [Pt.U, Pt.locs, Pt.cells, Pt.slots] at X68 l68 y68 z68 st68 hQ68
            subst l68 y68 z68
            obtain ⟨rfl, N68q, e68⟩ := hQ68
            have N68 := Fr.app N61 N68q
            refine own_go (fun tgt cont => st68 tgt cont) ?_
            show own_Go p e below s (Q0 n0) room_1.cells room_1.slots (T68.setTop (mkF m 353 #[.val (.int p1), .val (.int p2), .val (.int p3), .val (.int p4), .val (.int r2), .val (.int r4), .val (.int r6), .val (.int r8), .val (.ref b9), .val (.int (1 : Int32)), .val (.long v21), .second, .val (.long v25), .second, .val (.long v34), .second, .val (.long v38), .second, .val (.long v47), .second, .val (.long v51), .second, .val (.long v60), .second, .unset, .unset] [(.int (own_eol r6))]))
            generalize hr69 : (own_eol r6) = r69
            by_cases hc70 : r69 = 0
            ·
              refine own_go (B := T68.setTop (mkF m 364 #[.val (.int p1), .val (.int p2), .val (.int p3), .val (.int p4), .val (.int r2), .val (.int r4), .val (.int r6), .val (.int r8), .val (.ref b9), .val (.int (1 : Int32)), .val (.long v21), .second, .val (.long v25), .second, .val (.long v34), .second, .val (.long v38), .second, .val (.long v47), .second, .val (.long v51), .second, .val (.long v60), .second, .unset, .unset] [(.int r4)])) (fun tgt cont => ?_) ?_
              · refine XS.ifYes X68.here hx rfl (pc0 := 353) (pc' := 362) rfl (hb hby at_353) rfl (XT.i0_eq_t hc70) (by decide) (by decide) ?_
                refine XS.iload X68.here hx rfl (hb hby at_362) rfl ?_
                exact cont
              -- pc 364: TextPositionAdvancePinLaw.eol
              obtain ⟨_, _, ⟨T71, L71, k71, n71⟩, -, X71, ⟨Lc71, hQ71, l71, y71, z71⟩, st71⟩ := Jvm.LawKit.callS X68 hx (y := (⟨"com/example/pandect/pandect/text/TextPositionAdvancePinLaw", "eol", "(I)Z"⟩ : MethodName)) hown (mvT hZ (hw _ (List.mem_of_getElem? (i := 34) rfl))) (mvT hZ (hw _ (List.mem_of_getElem? (i := 35) rfl))) (mvT hZ (hw _ (List.mem_of_getElem? (i := 2) rfl))) (mvT hZ (hw _ (List.mem_of_getElem? (i := 36) rfl))) (by decide) (backOf (W := 0) (rm7 l Z a0 hw [] r4 T54.heap n0 zp54 ) hZ (hw _ (List.mem_of_getElem? (i := 36) rfl)) (hw _ (List.mem_of_getElem? (i := 2) rfl)) (by decide) (by decide)) (g := (mkF m 364 #[.val (.int p1), .val (.int p2), .val (.int p3), .val (.int p4), .val (.int r2), .val (.int r4), .val (.int r6), .val (.int r8), .val (.ref b9), .val (.int (1 : Int32)), .val (.long v21), .second, .val (.long v25), .second, .val (.long v34), .second, .val (.long v38), .second, .val (.long v47), .second, .val (.long v51), .second, .val (.long v60), .second, .unset, .unset] [(.int r4)])) rfl (by rw [hml]; rfl) (argsL := [(.int r4)]) (rest := []) (lenOf own_pd4 rfl) rfl (by show 2 * 0 + _ ≤ _; exact Nat.le_of_eq rfl) (hb hby at_364) (fun _ _ => ⟨rfl, e68, (by decide : 1 + 0 + 0 + 0 + 0 + 0 + 0 + 0 ≤ _), (by decide : 3 + 0 + 0 + 0 + 0 + 0 + 0 + 0 ≤ _)⟩)
              dsimp only [Pt.U, Pt.locs, Pt.cells, Pt.slots] at X71 l71 y71 z71 st71 hQ71
              subst l71 y71 z71
              obtain ⟨rfl, N71q, e71⟩ := hQ71
              have N71 := Fr.app N68 N71q
              refine own_go (fun tgt cont => st71 tgt cont) ?_
              show own_Go p e below s (Q0 n0) room_1.cells room_1.slots (T71.setTop (mkF m 367 #[.val (.int p1), .val (.int p2), .val (.int p3), .val (.int p4), .val (.int r2), .val (.int r4), .val (.int r6), .val (.int r8), .val (.ref b9), .val (.int (1 : Int32)), .val (.long v21), .second, .val (.long v25), .second, .val (.long v34), .second, .val (.long v38), .second, .val (.long v47), .second, .val (.long v51), .second, .val (.long v60), .second, .unset, .unset] [(.int (own_eol r4))]))
              generalize hr72 : (own_eol r4) = r72
              by_cases hc73 : r72 = 0
              ·
                refine own_go (B := T71.setTop (mkF m 378 #[.val (.int p1), .val (.int p2), .val (.int p3), .val (.int p4), .val (.int r2), .val (.int r4), .val (.int r6), .val (.int r8), .val (.ref b9), .val (.int (1 : Int32)), .val (.long v21), .second, .val (.long v25), .second, .val (.long v34), .second, .val (.long v38), .second, .val (.long v47), .second, .val (.long v51), .second, .val (.long v60), .second, .unset, .unset] [(.int r2)])) (fun tgt cont => ?_) ?_
                · refine XS.ifYes X71.here hx rfl (pc0 := 367) (pc' := 376) rfl (hb hby at_367) rfl (XT.i0_eq_t hc73) (by decide) (by decide) ?_
                  refine XS.iload X71.here hx rfl (hb hby at_376) rfl ?_
                  exact cont
                -- pc 378: TextPositionAdvancePinLaw.eol
                obtain ⟨_, _, ⟨T74, L74, k74, n74⟩, -, X74, ⟨Lc74, hQ74, l74, y74, z74⟩, st74⟩ := Jvm.LawKit.callS X71 hx (y := (⟨"com/example/pandect/pandect/text/TextPositionAdvancePinLaw", "eol", "(I)Z"⟩ : MethodName)) hown (mvT hZ (hw _ (List.mem_of_getElem? (i := 34) rfl))) (mvT hZ (hw _ (List.mem_of_getElem? (i := 35) rfl))) (mvT hZ (hw _ (List.mem_of_getElem? (i := 2) rfl))) (mvT hZ (hw _ (List.mem_of_getElem? (i := 36) rfl))) (by decide) (backOf (W := 0) (rm7 l Z a0 hw [] r2 T54.heap n0 zp54 ) hZ (hw _ (List.mem_of_getElem? (i := 36) rfl)) (hw _ (List.mem_of_getElem? (i := 2) rfl)) (by decide) (by decide)) (g := (mkF m 378 #[.val (.int p1), .val (.int p2), .val (.int p3), .val (.int p4), .val (.int r2), .val (.int r4), .val (.int r6), .val (.int r8), .val (.ref b9), .val (.int (1 : Int32)), .val (.long v21), .second, .val (.long v25), .second, .val (.long v34), .second, .val (.long v38), .second, .val (.long v47), .second, .val (.long v51), .second, .val (.long v60), .second, .unset, .unset] [(.int r2)])) rfl (by rw [hml]; rfl) (argsL := [(.int r2)]) (rest := []) (lenOf own_pd4 rfl) rfl (by show 2 * 0 + _ ≤ _; exact Nat.le_of_eq rfl) (hb hby at_378) (fun _ _ => ⟨rfl, e71, (by decide : 1 + 0 + 0 + 0 + 0 + 0 + 0 + 0 + 0 ≤ _), (by decide : 3 + 0 + 0 + 0 + 0 + 0 + 0 + 0 + 0 ≤ _)⟩)
                dsimp only [Pt.U, Pt.locs, Pt.cells, Pt.slots] at X74 l74 y74 z74 st74 hQ74
                subst l74 y74 z74
                obtain ⟨rfl, N74q, e74⟩ := hQ74
                have N74 := Fr.app N71 N74q
                refine own_go (fun tgt cont => st74 tgt cont) ?_
                show own_Go p e below s (Q0 n0) room_1.cells room_1.slots (T74.setTop (mkF m 381 #[.val (.int p1), .val (.int p2), .val (.int p3), .val (.int p4), .val (.int r2), .val (.int r4), .val (.int r6), .val (.int r8), .val (.ref b9), .val (.int (1 : Int32)), .val (.long v21), .second, .val (.long v25), .second, .val (.long v34), .second, .val (.long v38), .second, .val (.long v47), .second, .val (.long v51), .second, .val (.long v60), .second, .unset, .unset] [(.int (own_eol r2))]))
                generalize hr75 : (own_eol r2) = r75
                by_cases hc76 : r75 = 0
                ·
                  refine own_go (B := T74.setTop (mkF m 393 #[.val (.int p1), .val (.int p2), .val (.int p3), .val (.int p4), .val (.int r2), .val (.int r4), .val (.int r6), .val (.int r8), .val (.ref b9), .val (.int (1 : Int32)), .val (.long v21), .second, .val (.long v25), .second, .val (.long v34), .second, .val (.long v38), .second, .val (.long v47), .second, .val (.long v51), .second, .val (.long v60), .second, .unset, .unset] [(.long (5 : Int64))])) (fun tgt cont => ?_) ?_
                  · refine XS.ifYes X74.here hx rfl (pc0 := 381) (pc' := 390) rfl (hb hby at_381) rfl (XT.i0_eq_t hc76) (by decide) (by decide) ?_
                    refine Stand.ldc2J X74 hx hown (mvT hZ (hw _ (List.mem_of_getElem? (i := 43) rfl))) rfl (hb hby at_390) ?_
                    exact cont
                  exact K63 _ _ (5 : Int64) (own_wide X74 (by decide) (by decide)) e74 N74 (by subst hr69 hr72 hr75; simp only [if_pos hc67, if_pos hc70, if_pos hc73, if_pos hc76])
                ·
                  refine own_go (B := T74.setTop (mkF m 393 #[.val (.int p1), .val (.int p2), .val (.int p3), .val (.int p4), .val (.int r2), .val (.int r4), .val (.int r6), .val (.int r8), .val (.ref b9), .val (.int (1 : Int32)), .val (.long v21), .second, .val (.long v25), .second, .val (.long v34), .second, .val (.long v38), .second, .val (.long v47), .second, .val (.long v51), .second, .val (.long v60), .second, .unset, .unset] [(.long (4 : Int64))])) (fun tgt cont => ?_) ?_
                  · refine XS.ifNo X74.here hx rfl (hb hby at_381) rfl (XT.i0_eq_f hc76) ?_
                    refine Stand.ldc2J X74 hx hown (mvT hZ (hw _ (List.mem_of_getElem? (i := 42) rfl))) rfl (hb hby at_384) ?_
                    refine XS.goto X74.here hx rfl (pc0 := 387) (pc' := 393) rfl (hb hby at_387) (by decide) (by decide) ?_
                    exact cont
                  exact K63 _ _ (4 : Int64) (own_wide X74 (by decide) (by decide)) e74 N74 (by subst hr69 hr72 hr75; simp only [if_pos hc67, if_pos hc70, if_pos hc73, if_neg hc76])
              ·
                refine own_go (B := T71.setTop (mkF m 393 #[.val (.int p1), .val (.int p2), .val (.int p3), .val (.int p4), .val (.int r2), .val (.int r4), .val (.int r6), .val (.int r8), .val (.ref b9), .val (.int (1 : Int32)), .val (.long v21), .second, .val (.long v25), .second, .val (.long v34), .second, .val (.long v38), .second, .val (.long v47), .second, .val (.long v51), .second, .val (.long v60), .second, .unset, .unset] [(.long (3 : Int64))])) (fun tgt cont => ?_) ?_
                · refine XS.ifNo X71.here hx rfl (hb hby at_367) rfl (XT.i0_eq_f hc73) ?_
                  refine Stand.ldc2J X71 hx hown (mvT hZ (hw _ (List.mem_of_getElem? (i := 41) rfl))) rfl (hb hby at_370) ?_
                  refine XS.goto X71.here hx rfl (pc0 := 373) (pc' := 393) rfl (hb hby at_373) (by decide) (by decide) ?_
                  exact cont
                exact K63 _ _ (3 : Int64) (own_wide X71 (by decide) (by decide)) e71 N71 (by subst hr69 hr72; simp only [if_pos hc67, if_pos hc70, if_neg hc73])
            ·
              refine own_go (B := T68.setTop (mkF m 393 #[.val (.int p1), .val (.int p2), .val (.int p3), .val (.int p4), .val (.int r2), .val (.int r4), .val (.int r6), .val (.int r8), .val (.ref b9), .val (.int (1 : Int32)), .val (.long v21), .second, .val (.long v25), .second, .val (.long v34), .second, .val (.long v38), .second, .val (.long v47), .second, .val (.long v51), .second, .val (.long v60), .second, .unset, .unset] [(.long (2 : Int64))])) (fun tgt cont => ?_) ?_
              · refine XS.ifNo X68.here hx rfl (hb hby at_353) rfl (XT.i0_eq_f hc70) ?_
                refine Stand.ldc2J X68 hx hown (mvT hZ (hw _ (List.mem_of_getElem? (i := 40) rfl))) rfl (hb hby at_356) ?_
                refine XS.goto X68.here hx rfl (pc0 := 359) (pc' := 393) rfl (hb hby at_359) (by decide) (by decide) ?_
                exact cont
              exact K63 _ _ (2 : Int64) (own_wide X68 (by decide) (by decide)) e68 N68 (by subst hr69; simp only [if_pos hc67, if_neg hc70])
          ·
            refine own_go (B := T61.setTop (mkF m 393 #[.val (.int p1), .val (.int p2), .val (.int p3), .val (.int p4), .val (.int r2), .val (.int r4), .val (.int r6), .val (.int r8), .val (.ref b9), .val (.int (1 : Int32)), .val (.long v21), .second, .val (.long v25), .second, .val (.long v34), .second, .val (.long v38), .second, .val (.long v47), .second, .val (.long v51), .second, .val (.long v60), .second, .unset, .unset] [(.long (1 : Int64))])) (fun tgt cont => ?_) ?_
            · refine XS.ifNo X61.here hx rfl (hb hby at_341) rfl (XT.i0_eq_f hc67) ?_
              refine XT.lconstV X61.here hx rfl (1 : Int64) (hb hby at_344) rfl ?_
              refine XS.goto X61.here hx rfl (pc0 := 345) (pc' := 393) rfl (hb hby at_345) (by decide) (by decide) ?_
              exact cont
            exact K63 _ _ (1 : Int64) (own_wide X61 (by decide) (by decide)) e61 N61 (by simp only [if_neg hc67])
        by_cases hc77 : r49 = 0
        ·
          refine own_go (B := T48.setTop (mkF m 252 #[.val (.int p1), .val (.int p2), .val (.int p3), .val (.int p4), .val (.int r2), .val (.int r4), .val (.int r6), .val (.int r8), .val (.ref b9), .val (.int (1 : Int32)), .val (.long v21), .second, .val (.long v25), .second, .val (.long v34), .second, .val (.long v38), .second, .val (.long v47), .second, .unset, .unset, .unset, .unset, .unset, .unset] [(.int r4)])) (fun tgt cont => ?_) ?_
          · refine XS.ifYes X48.here hx rfl (pc0 := 243) (pc' := 250) rfl (hb hby at_243) rfl (XT.i0_eq_t hc77) (by decide) (by decide) ?_
            refine XS.iload X48.here hx rfl (hb hby at_250) rfl ?_
            exact cont
          -- pc 252: TextPositionAdvancePinLaw.eol
          obtain ⟨_, _, ⟨T78, L78, k78, n78⟩, -, X78, ⟨Lc78, hQ78, l78, y78, z78⟩, st78⟩ := Jvm.LawKit.callS X48 hx (y := (⟨"com/example/pandect/pandect/text/TextPositionAdvancePinLaw", "eol", "(I)Z"⟩ : MethodName)) hown (mvT hZ (hw _ (List.mem_of_getElem? (i := 34) rfl))) (mvT hZ (hw _ (List.mem_of_getElem? (i := 35) rfl))) (mvT hZ (hw _ (List.mem_of_getElem? (i := 2) rfl))) (mvT hZ (hw _ (List.mem_of_getElem? (i := 36) rfl))) (by decide) (backOf (W := 0) (rm7 l Z a0 hw [] r4 T41.heap n0 zp41 ) hZ (hw _ (List.mem_of_getElem? (i := 36) rfl)) (hw _ (List.mem_of_getElem? (i := 2) rfl)) (by decide) (by decide)) (g := (mkF m 252 #[.val (.int p1), .val (.int p2), .val (.int p3), .val (.int p4), .val (.int r2), .val (.int r4), .val (.int r6), .val (.int r8), .val (.ref b9), .val (.int (1 : Int32)), .val (.long v21), .second, .val (.long v25), .second, .val (.long v34), .second, .val (.long v38), .second, .val (.long v47), .second, .unset, .unset, .unset, .unset, .unset, .unset] [(.int r4)])) rfl (by rw [hml]; rfl) (argsL := [(.int r4)]) (rest := []) (lenOf own_pd4 rfl) rfl (by show 2 * 0 + _ ≤ _; exact Nat.le_of_eq rfl) (hb hby at_252) (fun _ _ => ⟨rfl, e48, (by decide : 1 + 0 + 0 + 0 + 0 + 0 + 0 ≤ _), (by decide : 3 + 0 + 0 + 0 + 0 + 0 + 0 ≤ _)⟩)
          dsimp only [Pt.U, Pt.locs, Pt.cells, Pt.slots] at X78 l78 y78 z78 st78 hQ78
          subst l78 y78 z78
          obtain ⟨rfl, N78q, e78⟩ := hQ78
          have N78 := Fr.app N48 N78q
          refine own_go (fun tgt cont => st78 tgt cont) ?_
          show own_Go p e below s (Q0 n0) room_1.cells room_1.slots (T78.setTop (mkF m 255 #[.val (.int p1), .val (.int p2), .val (.int p3), .val (.int p4), .val (.int r2), .val (.int r4), .val (.int r6), .val (.int r8), .val (.ref b9), .val (.int (1 : Int32)), .val (.long v21), .second, .val (.long v25), .second, .val (.long v34), .second, .val (.long v38), .second, .val (.long v47), .second, .unset, .unset, .unset, .unset, .unset, .unset] [(.int (own_eol r4))]))
          generalize hr79 : (own_eol r4) = r79
          by_cases hc80 : r79 = 0
          ·
            refine own_go (B := T78.setTop (mkF m 266 #[.val (.int p1), .val (.int p2), .val (.int p3), .val (.int p4), .val (.int r2), .val (.int r4), .val (.int r6), .val (.int r8), .val (.ref b9), .val (.int (1 : Int32)), .val (.long v21), .second, .val (.long v25), .second, .val (.long v34), .second, .val (.long v38), .second, .val (.long v47), .second, .unset, .unset, .unset, .unset, .unset, .unset] [(.int r2)])) (fun tgt cont => ?_) ?_
            · refine XS.ifYes X78.here hx rfl (pc0 := 255) (pc' := 264) rfl (hb hby at_255) rfl (XT.i0_eq_t hc80) (by decide) (by decide) ?_
              refine XS.iload X78.here hx rfl (hb hby at_264) rfl ?_
              exact cont
            -- pc 266: TextPositionAdvancePinLaw.eol
            obtain ⟨_, _, ⟨T81, L81, k81, n81⟩, -, X81, ⟨Lc81, hQ81, l81, y81, z81⟩, st81⟩ := Jvm.LawKit.callS X78 hx (y := (⟨"com/example/pandect/pandect/text/TextPositionAdvancePinLaw", "eol", "(I)Z"⟩ : MethodName)) hown (mvT hZ (hw _ (List.mem_of_getElem? (i := 34) rfl))) (mvT hZ (hw _ (List.mem_of_getElem? (i := 35) rfl))) (mvT hZ (hw _ (List.mem_of_getElem? (i := 2) rfl))) (mvT hZ (hw _ (List.mem_of_getElem? (i := 36) rfl))) (by decide) (backOf (W := 0) (rm7 l Z a0 hw [] r2 T41.heap n0 zp41 ) hZ (hw _ (List.mem_of_getElem? (i := 36) rfl)) (hw _ (List.mem_of_getElem? (i := 2) rfl)) (by decide) (by decide)) (g := (mkF m 266 #[.val (.int p1), .val (.int p2), .val (.int p3), .val (.int p4), .val (.int r2), .val (.int r4), .val (.int r6), .val (.int r8), .val (.ref b9), .val (.int (1 : Int32)), .val (.long v21), .second, .val (.long v25), .second, .val (.long v34), .second, .val (.long v38), .second, .val (.long v47), .second, .unset, .unset, .unset, .unset, .unset, .unset] [(.int r2)])) rfl (by rw [hml]; rfl) (argsL := [(.int r2)]) (rest := []) (lenOf own_pd4 rfl) rfl (by show 2 * 0 + _ ≤ _; exact Nat.le_of_eq rfl) (hb hby at_266) (fun _ _ => ⟨rfl, e78, (by decide : 1 + 0 + 0 + 0 + 0 + 0 + 0 + 0 ≤ _), (by decide : 3 + 0 + 0 + 0 + 0 + 0 + 0 + 0 ≤ _)⟩)
            dsimp only [Pt.U, Pt.locs, Pt.cells, Pt.slots] at X81 l81 y81 z81 st81 hQ81
            subst l81 y81 z81
            obtain ⟨rfl, N81q, e81⟩ := hQ81
            have N81 := Fr.app N78 N81q
            refine own_go (fun tgt cont => st81 tgt cont) ?_
            show own_Go p e below s (Q0 n0) room_1.cells room_1.slots (T81.setTop (mkF m 269 #[.val (.int p1), .val (.int p2), .val (.int p3), .val (.int p4), .val (.int r2), .val (.int r4), .val (.int r6), .val (.int r8), .val (.ref b9), .val (.int (1 : Int32)), .val (.long v21), .second, .val (.long v25), .second, .val (.long v34), .second, .val (.long v38), .second, .val (.long v47), .second, .unset, .unset, .unset, .unset, .unset, .unset] [(.int (own_eol r2))]))
            generalize hr82 : (own_eol r2) = r82
            by_cases hc83 : r82 = 0
            ·
              refine own_go (B := T81.setTop (mkF m 281 #[.val (.int p1), .val (.int p2), .val (.int p3), .val (.int p4), .val (.int r2), .val (.int r4), .val (.int r6), .val (.int r8), .val (.ref b9), .val (.int (1 : Int32)), .val (.long v21), .second, .val (.long v25), .second, .val (.long v34), .second, .val (.long v38), .second, .val (.long v47), .second, .unset, .unset, .unset, .unset, .unset, .unset] [(.long (4 : Int64))])) (fun tgt cont => ?_) ?_
              · refine XS.ifYes X81.here hx rfl (pc0 := 269) (pc' := 278) rfl (hb hby at_269) rfl (XT.i0_eq_t hc83) (by decide) (by decide) ?_
                refine Stand.ldc2J X81 hx hown (mvT hZ (hw _ (List.mem_of_getElem? (i := 42) rfl))) rfl (hb hby at_278) ?_
                exact cont
              exact K50 _ _ (4 : Int64) (own_wide X81 (by decide) (by decide)) e81 N81 (by subst hr79 hr82; simp only [if_pos hc77, if_pos hc80, if_pos hc83])
            ·
              refine own_go (B := T81.setTop (mkF m 281 #[.val (.int p1), .val (.int p2), .val (.int p3), .val (.int p4), .val (.int r2), .val (.int r4), .val (.int r6), .val (.int r8), .val (.ref b9), .val (.int (1 : Int32)), .val (.long v21), .second, .val (.long v25), .second, .val (.long v34), .second, .val (.long v38), .second, .val (.long v47), .second, .unset, .unset, .unset, .unset, .unset, .unset] [(.long (3 : Int64))])) (fun tgt cont => ?_) ?_
              · refine XS.ifNo X81.here hx rfl (hb hby at_269) rfl (XT.i0_eq_f hc83) ?_
                refine Stand.ldc2J X81 hx hown (mvT hZ (hw _ (List.mem_of_getElem? (i := 41) rfl))) rfl (hb hby at_272) ?_
                refine XS.goto X81.here hx rfl (pc0 := 275) (pc' := 281) rfl (hb hby at_275) (by decide) (by decide) ?_
                exact cont
              exact K50 _ _ (3 : Int64) (own_wide X81 (by decide) (by decide)) e81 N81 (by subst hr79 hr82; simp only [if_pos hc77, if_pos hc80, if_neg hc83])
          ·
            refine own_go (B := T78.setTop (mkF m 281 #[.val (.int p1), .val (.int p2), .val (.int p3), .val (.int p4), .val (.int r2), .val (.int r4), .val (.int r6), .val (.int r8), .val (.ref b9), .val (.int (1 : Int32)), .val (.long v21), .second, .val (.long v25), .second, .val (.long v34), .second, .val (.long v38), .second, .val (.long v47), .second, .unset, .unset, .unset, .unset, .unset, .unset] [(.long (2 : Int64))])) (fun tgt cont => ?_) ?_
            · refine XS.ifNo X78.here hx rfl (hb hby at_255) rfl (XT.i0_eq_f hc80) ?_
              refine Stand.ldc2J X78 hx hown (mvT hZ (hw _ (List.mem_of_getElem? (i := 40) rfl))) rfl (hb hby at_258) ?_
              refine XS.goto X78.here hx rfl (pc0 := 261) (pc' := 281) rfl (hb hby at_261) (by decide) (by decide) ?_
              exact cont
            exact K50 _ _ (2 : Int64) (own_wide X78 (by decide) (by decide)) e78 N78 (by subst hr79; simp only [if_pos hc77, if_neg hc80])
        ·
          refine own_go (B := T48.setTop (mkF m 281 #[.val (.int p1), .val (.int p2), .val (.int p3), .val (.int p4), .val (.int r2), .val (.int r4), .val (.int r6), .val (.int r8), .val (.ref b9), .val (.int (1 : Int32)), .val (.long v21), .second, .val (.long v25), .second, .val (.long v34), .second, .val (.long v38), .second, .val (.long v47), .second, .unset, .unset, .unset, .unset, .unset, .unset] [(.long (1 : Int64))])) (fun tgt cont => ?_) ?_
          · refine XS.ifNo X48.here hx rfl (hb hby at_243) rfl (XT.i0_eq_f hc77) ?_
            refine XT.lconstV X48.here hx rfl (1 : Int64) (hb hby at_246) rfl ?_
            refine XS.goto X48.here hx rfl (pc0 := 247) (pc' := 281) rfl (hb hby at_247) (by decide) (by decide) ?_
            exact cont
          exact K50 _ _ (1 : Int64) (own_wide X48 (by decide) (by decide)) e48 N48 (by simp only [if_neg hc77])
      by_cases hc84 : r36 = 0
      ·
        refine own_go (B := T35.setTop (mkF m 168 #[.val (.int p1), .val (.int p2), .val (.int p3), .val (.int p4), .val (.int r2), .val (.int r4), .val (.int r6), .val (.int r8), .val (.ref b9), .val (.int (1 : Int32)), .val (.long v21), .second, .val (.long v25), .second, .val (.long v34), .second, .unset, .unset, .unset, .unset, .unset, .unset, .unset, .unset, .unset, .unset] [(.int r2)])) (fun tgt cont => ?_) ?_
        · refine XS.ifYes X35.here hx rfl (pc0 := 159) (pc' := 166) rfl (hb hby at_159) rfl (XT.i0_eq_t hc84) (by decide) (by decide) ?_
          refine XS.iload X35.here hx rfl (hb hby at_166) rfl ?_
          exact cont
        -- pc 168: TextPositionAdvancePinLaw.eol
        obtain ⟨_, _, ⟨T85, L85, k85, n85⟩, -, X85, ⟨Lc85, hQ85, l85, y85, z85⟩, st85⟩ := Jvm.LawKit.callS X35 hx (y := (⟨"com/example/pandect/pandect/text/TextPositionAdvancePinLaw", "eol", "(I)Z"⟩ : MethodName)) hown (mvT hZ (hw _ (List.mem_of_getElem? (i := 34) rfl))) (mvT hZ (hw _ (List.mem_of_getElem? (i := 35) rfl))) (mvT hZ (hw _ (List.mem_of_getElem? (i := 2) rfl))) (mvT hZ (hw _ (List.mem_of_getElem? (i := 36) rfl))) (by decide) (backOf (W := 0) (rm7 l Z a0 hw [] r2 T28.heap n0 zp28 ) hZ (hw _ (List.mem_of_getElem? (i := 36) rfl)) (hw _ (List.mem_of_getElem? (i := 2) rfl)) (by decide) (by decide)) (g := (mkF m 168 #[.val (.int p1), .val (.int p2), .val (.int p3), .val (.int p4), .val (.int r2), .val (.int r4), .val (.int r6), .val (.int r8), .val (.ref b9), .val (.int (1 : Int32)), .val (.long v21), .second, .val (.long v25), .second, .val (.long v34), .second, .unset, .unset, .unset, .unset, .unset, .unset, .unset, .unset, .unset, .unset] [(.int r2)])) rfl (by rw [hml]; rfl) (argsL := [(.int r2)]) (rest := []) (lenOf own_pd4 rfl) rfl (by show 2 * 0 + _ ≤ _; exact Nat.le_of_eq rfl) (hb hby at_168) (fun _ _ => ⟨rfl, e35, (by decide : 0 + 0 + 0 + 0 + 0 + 1 + 0 + 0 + 0 + 0 + 0 + 0 + 0 + 0 + 0 + 0 + 0 + 0 ≤ _), (by decide : 0 + 0 + 0 + 0 + 0 + 3 + 0 + 0 + 0 + 0 + 0 + 0 + 0 + 0 + 0 + 0 + 0 + 0 ≤ _)⟩)
        dsimp only [Pt.U, Pt.locs, Pt.cells, Pt.slots] at X85 l85 y85 z85 st85 hQ85
        subst l85 y85 z85
        obtain ⟨rfl, N85q, e85⟩ := hQ85
        have N85 := Fr.app N35 N85q
        refine own_go (fun tgt cont => st85 tgt cont) ?_
        show own_Go p e below s (Q0 n0) room_1.cells room_1.slots (T85.setTop (mkF m 171 #[.val (.int p1), .val (.int p2), .val (.int p3), .val (.int p4), .val (.int r2), .val (.int r4), .val (.int r6), .val (.int r8), .val (.ref b9), .val (.int (1 : Int32)), .val (.long v21), .second, .val (.long v25), .second, .val (.long v34), .second, .unset, .unset, .unset, .unset, .unset, .unset, .unset, .unset, .unset, .unset] [(.int (own_eol r2))]))
        generalize hr86 : (own_eol r2) = r86
        by_cases hc87 : r86 = 0
        ·
          refine own_go (B := T85.setTop (mkF m 183 #[.val (.int p1), .val (.int p2), .val (.int p3), .val (.int p4), .val (.int r2), .val (.int r4), .val (.int r6), .val (.int r8), .val (.ref b9), .val (.int (1 : Int32)), .val (.long v21), .second, .val (.long v25), .second, .val (.long v34), .second, .unset, .unset, .unset, .unset, .unset, .unset, .unset, .unset, .unset, .unset] [(.long (3 : Int64))])) (fun tgt cont => ?_) ?_
          · refine XS.ifYes X85.here hx rfl (pc0 := 171) (pc' := 180) rfl (hb hby at_171) rfl (XT.i0_eq_t hc87) (by decide) (by decide) ?_
            refine Stand.ldc2J X85 hx hown (mvT hZ (hw _ (List.mem_of_getElem? (i := 41) rfl))) rfl (hb hby at_180) ?_
            exact cont
          exact K37 _ _ (3 : Int64) (own_wide X85 (by decide) (by decide)) e85 N85 (by subst hr86; simp only [if_pos hc84, if_pos hc87])
        ·
          refine own_go (B := T85.setTop (mkF m 183 #[.val (.int p1), .val (.int p2), .val (.int p3), .val (.int p4), .val (.int r2), .val (.int r4), .val (.int r6), .val (.int r8), .val (.ref b9), .val (.int (1 : Int32)), .val (.long v21), .second, .val (.long v25), .second, .val (.long v34), .second, .unset, .unset, .unset, .unset, .unset, .unset, .unset, .unset, .unset, .unset] [(.long (2 : Int64))])) (fun tgt cont => ?_) ?_
          · refine XS.ifNo X85.here hx rfl (hb hby at_171) rfl (XT.i0_eq_f hc87) ?_
            refine Stand.ldc2J X85 hx hown (mvT hZ (hw _ (List.mem_of_getElem? (i := 40) rfl))) rfl (hb hby at_174) ?_
            refine XS.goto X85.here hx rfl (pc0 := 177) (pc' := 183) rfl (hb hby at_177) (by decide) (by decide) ?_
            exact cont
          exact K37 _ _ (2 : Int64) (own_wide X85 (by decide) (by decide)) e85 N85 (by subst hr86; simp only [if_pos hc84, if_neg hc87])
      ·
        refine own_go (B := T35.setTop (mkF m 183 #[.val (.int p1), .val (.int p2), .val (.int p3), .val (.int p4), .val (.int r2), .val (.int r4), .val (.int r6), .val (.int r8), .val (.ref b9), .val (.int (1 : Int32)), .val (.long v21), .second, .val (.long v25), .second, .val (.long v34), .second, .unset, .unset, .unset, .unset, .unset, .unset, .unset, .unset, .unset, .unset] [(.long (1 : Int64))])) (fun tgt cont => ?_) ?_
        · refine XS.ifNo X35.here hx rfl (hb hby at_159) rfl (XT.i0_eq_f hc84) ?_
          refine XT.lconstV X35.here hx rfl (1 : Int64) (hb hby at_162) rfl ?_
          refine XS.goto X35.here hx rfl (pc0 := 163) (pc' := 183) rfl (hb hby at_163) (by decide) (by decide) ?_
          exact cont
        exact K37 _ _ (1 : Int64) (own_wide X35 (by decide) (by decide)) e35 N35 (by simp only [if_neg hc84])
    by_cases hc88 : r23 = 0
    ·
      refine own_go (B := T22.setTop (mkF m 99 #[.val (.int p1), .val (.int p2), .val (.int p3), .val (.int p4), .val (.int r2), .val (.int r4), .val (.int r6), .val (.int r8), .val (.ref b9), .val (.int (1 : Int32)), .val (.long v21), .second, .unset, .unset, .unset, .unset, .unset, .unset, .unset, .unset, .unset, .unset, .unset, .unset, .unset, .unset] [(.long (2 : Int64))])) (fun tgt cont => ?_) ?_
      · refine XS.ifYes X22.here hx rfl (pc0 := 89) (pc' := 96) rfl (hb hby at_89) rfl (XT.i0_eq_t hc88) (by decide) (by decide) ?_
        refine Stand.ldc2J X22 hx hown (mvT hZ (hw _ (List.mem_of_getElem? (i := 40) rfl))) rfl (hb hby at_96) ?_
        exact cont
      exact K24 (2 : Int64) (by simp only [if_pos hc88])
    ·
      refine own_go (B := T22.setTop (mkF m 99 #[.val (.int p1), .val (.int p2), .val (.int p3), .val (.int p4), .val (.int r2), .val (.int r4), .val (.int r6), .val (.int r8), .val (.ref b9), .val (.int (1 : Int32)), .val (.long v21), .second, .unset, .unset, .unset, .unset, .unset, .unset, .unset, .unset, .unset, .unset, .unset, .unset, .unset, .unset] [(.long (1 : Int64))])) (fun tgt cont => ?_) ?_
      · refine XS.ifNo X22.here hx rfl (hb hby at_89) rfl (XT.i0_eq_f hc88) ?_
        refine XT.lconstV X22.here hx rfl (1 : Int64) (hb hby at_92) rfl ?_
        refine XS.goto X22.here hx rfl (pc0 := 93) (pc' := 99) rfl (hb hby at_93) (by decide) (by decide) ?_
        exact cont
      exact K24 (1 : Int64) (by simp only [if_neg hc88])
  by_cases hc89 : r18 = 0
  ·
    refine own_go (B := T17.setTop (mkF m 81 #[.val (.int p1), .val (.int p2), .val (.int p3), .val (.int p4), .val (.int r2), .val (.int r4), .val (.int r6), .val (.int r8), .val (.ref b9), .val (.int (1 : Int32)), .unset, .unset, .unset, .unset, .unset, .unset, .unset, .unset, .unset, .unset, .unset, .unset, .unset, .unset, .unset, .unset] [(.long (0 : Int64)), (.long (1 : Int64))])) (fun tgt cont => ?_) ?_
    · refine XS.ifYes X17.here hx rfl (pc0 := 73) (pc' := 80) rfl (hb hby at_73) rfl (XT.i0_eq_t hc89) (by decide) (by decide) ?_
      refine XT.lconstV X17.here hx rfl (0 : Int64) (hb hby at_80) rfl ?_
      exact cont
    exact K19 (0 : Int64) (by simp only [if_pos hc89])
  ·
    refine own_go (B := T17.setTop (mkF m 81 #[.val (.int p1), .val (.int p2), .val (.int p3), .val (.int p4), .val (.int r2), .val (.int r4), .val (.int r6), .val (.int r8), .val (.ref b9), .val (.int (1 : Int32)), .unset, .unset, .unset, .unset, .unset, .unset, .unset, .unset, .unset, .unset, .unset, .unset, .unset, .unset, .unset, .unset] [(.long (1 : Int64)), (.long (1 : Int64))])) (fun tgt cont => ?_) ?_
    · refine XS.ifNo X17.here hx rfl (hb hby at_73) rfl (XT.i0_eq_f hc89) ?_
      refine XT.lconstV X17.here hx rfl (1 : Int64) (hb hby at_76) rfl ?_
      refine XS.goto X17.here hx rfl (pc0 := 77) (pc' := 81) rfl (hb hby at_77) (by decide) (by decide) ?_
      exact cont
    exact K19 (1 : Int64) (by simp only [if_neg hc89])
set_option maxRecDepth 65536 in
set_option maxHeartbeats 40000000 in
theorem comes_1 {Post : Tables → Env → Array Value → State → Outcome → State → Prop} (hpost : ∀ tb e args s v u, (limb_1_1.after args s (.returned v) u = true ∧ limb_1_2.after args s (.returned v) u = true ∧ True) → FrameEnd s (.returned v) u (Jvm.fieldLocs frame_1_writes args s ++ Jvm.arrayLocs frame_1_arrays args s ++ Jvm.staticLocs frame_1_statics s) 16 128 → Post tb e args s (.returned v) u) :
    ArmFor flags0 classFile x code maxLocals ret World_1 tables_1 room_1 Calls_1 rest_1 Pre_1 Post := by
  intro l hfl _ _ p e ha hc hk s m args below hf hA hF happ hP
  obtain ⟨hcalls, hrest, hpre⟩ := hP
  obtain ⟨-, -, -, hnamed, -, -, -, hat⟩ := (Spec.applies_iff hf).mp happ
  obtain ⟨hg, hn⟩ := and_e (Cond.before_iff.mp (show (Jvm.Cond.and given_1 narrow_1).before args s = true from hpre))
  obtain ⟨g0, gr0⟩ := and_e hg
  obtain ⟨ga0, gr1⟩ := and_e gr0
  obtain ⟨ga1, gr2⟩ := and_e gr1
  obtain ⟨ga2, gr3⟩ := and_e gr2
  obtain ⟨w0, w1, w2, w3, rfl⟩ : ∃ w0 w1 w2 w3 : Value, args = #[w0, w1, w2, w3] := by
    have hs : args.size = 4 := by simpa [Cond.value, given_1] using g0
    obtain ⟨L⟩ := args
    match L, hs with
    | [w0, w1, w2, w3], _ => exact ⟨w0, w1, w2, w3, rfl⟩
  have hw := fun d (hd : d ∈ tables_1) => atoms_spec (ws := Jvm.Cond.code x code maxLocals ret :: tables_1) hat d (List.mem_cons_of_mem _ hd)
  obtain ⟨i0, ei0⟩ := is_v ga0
  obtain rfl : w0 = (.int i0) := Option.some.inj ei0
  obtain ⟨i1, ei1⟩ := is_v ga1
  obtain rfl : w1 = (.int i1) := Option.some.inj ei1
  obtain ⟨i2, ei2⟩ := is_v ga2
  obtain rfl : w2 = (.int i2) := Option.some.inj ei2
  obtain ⟨i3, ei3⟩ := is_v gr3
  obtain rfl : w3 = (.int i3) := Option.some.inj ei3
  obtain ⟨n, o, h1, h2, h3, _, L, rfl, ⟨rfl, N⟩, hq⟩ := rm0 l s _ hw tables_1 i0 i1 i2 i3 s.heap s.heap.size (Nat.le_refl _) p e ha hc hk s m _ below hf ((Spec.applies_iff_loose hf).mp happ).1 ⟨rfl, State.Warmed39.refl s, rfl⟩ trivial
  refine ⟨n, _, h1, h2, h3, hpost _ _ _ _ _ _ ⟨Cond.after_iff.mpr rfl, Cond.after_iff.mpr (eq_i res_at (Term.int_eval (1)) rfl), trivial⟩ ⟨hq.1, hq.2.1, (hq.2.2.sift fun y hy => Or.inr (N y hy)).mono (by decide) (by decide)⟩⟩
theorem main_1_1 : Claimed_1_1 := comes_1 fun _ _ _ _ _ _ h hF => ⟨h.1, hF⟩
theorem main_1_2 : Claimed_1_2 := comes_1 fun _ _ _ _ _ _ h hF => ⟨h.2.1, hF⟩
end Jvm.Pilot.@@N@@
namespace Jvm.Pilot.@@N@@
open Jvm Jvm.ClassFile Sem Op Lib Jvm.Free Jvm.Stand Jvm.Pilot.@@N@@.Jvm.D
/-! MADE BY PROGRAM (witnessworld.py) out of the Statement's table words and the real class files: 9 classes; the members and pool entries that the words name. The judged class is class 1, her method 4. -/
namespace start1
open Jvm.ClassFile
def u (s : String) : CpInfo := .utf8 (stringToUtf16 s)
/-- a pool by its gaps: so many unusable entries, then the entry; so many at the end -/
def gap : Nat → List CpInfo → List CpInfo
  | 0, r => r
  | n + 1, r => .unusable :: gap n r
def poolList (es : List (Nat × CpInfo)) (last : Nat) : List CpInfo := es.foldr (fun e r => gap e.1 (e.2 :: r)) (gap last [])
def pool (es : List (Nat × CpInfo)) (last : Nat) : Array CpInfo := ⟨poolList es last⟩
def fileOf (pool : Array CpInfo) (this : Nat) (attrs : Array Attribute := #[]) (ms : Array MethodInfo := #[]) (fl : Nat := 33) (sup : Nat := 0) (ifs : Array Nat := #[]) (fds : Array FieldInfo := #[]) : ClassFile where
  minorVersion := 0
  majorVersion := 65
  constantPool := pool
  accessFlags := fl
  thisClass := this
  superClass := sup
  interfaces := ifs
  fields := fds
  methods := ms
  attributes := attrs
def plain (name : String) (sup : Option ClassId) : Class where
  name := name
  kind := .ordinary
  loader := none
  accessFlags := 33
  super := sup
  interfaces := #[]
  cf := none
  fields := #[]
  methods := #[]
  instanceTypes := #[]
  staticTypes := #[]
  resolved := #[]
  callSites := []
  init := .initialized
  statics := none
  mirror := none

def pool0 : Array CpInfo := pool [(5, u "<init>"), (0, u "()V"), (1, .class_ 10), (1, u "java/lang/Object")] 113

def k0c0 : Code := { maxStack := 0, maxLocals := 1, code := object_method_1_code, exceptionTable := #[], attributes := #[] }
def k0m0 : Method := { name := "<init>", desc := "()V", sig := { parameters := [], returnType := none }, accessFlags := 1, code := some k0c0 }
/-- java/lang/Object -/
def k0 : Class := { plain "java/lang/Object" none with
  accessFlags := 33
  interfaces := #[]
  cf := some (fileOf pool0 8 #[] #[{ accessFlags := 1, nameIndex := 5, descriptorIndex := 6, attributes := #[] }] 33 0 #[] #[])
  fields := #[]
  methods := #[k0m0]
  instanceTypes := #[]
  staticTypes := #[]
  resolved := Array.replicate 124 none
  statics := none }

def pool1 : Array CpInfo := pool [(2, .class_ 4), (0, .nameAndType 5 6), (0, u "java/lang/Object"), (0, u "<init>"), (0, u "()V"), (0, .methodref 8 9), (0, .class_ 10), (0, .nameAndType 11 12), (0, u "com/example/pandect/pandect/text/TextPositionAdvancePinLaw"), (0, u "cp"), (0, u "(I)I"), (0, .class_ 14), (0, u "com/example/pandect/pandect/text/TextPosition"), (0, .methodref 13 3), (0, .methodref 13 17), (0, .nameAndType 18 19), (0, u "line"), (0, u "()J"), (0, .methodref 13 21), (0, .nameAndType 22 19), (0, u "column"), (0, .methodref 13 24), (0, .nameAndType 25 26), (0, u "advance"), (0, u "(I)V"), (0, .methodref 8 28), (0, .nameAndType 29 30), (0, u "eol"), (0, u "(I)Z"), (0, .long 2), (1, .methodref 8 34), (0, .nameAndType 35 36), (0, u "brk"), (0, u "(II)J"), (0, .long 3), (1, .long 4), (1, .long 5), (4, u "law"), (0, u "(IIII)Z")] 2

def k1m0 : Method := { name := "<init>", desc := "()V", sig := { parameters := [], returnType := none }, accessFlags := 1, code := none }
def k1c1 : Code := { maxStack := 2, maxLocals := 2, code := method_2_code, exceptionTable := #[], attributes := #[] }
def k1m1 : Method := { name := "cp", desc := "(I)I", sig := { parameters := [.int], returnType := some .int }, accessFlags := 10, code := some k1c1 }
def k1c2 : Code := { maxStack := 2, maxLocals := 1, code := method_3_code, exceptionTable := #[], attributes := #[] }
def k1m2 : Method := { name := "eol", desc := "(I)Z", sig := { parameters := [.int], returnType := some .boolean }, accessFlags := 10, code := some k1c2 }
def k1c3 : Code := { maxStack := 2, maxLocals := 2, code := method_4_code, exceptionTable := #[], attributes := #[] }
def k1m3 : Method := { name := "brk", desc := "(II)J", sig := { parameters := [.int, .int], returnType := some .long }, accessFlags := 10, code := some k1c3 }
def k1c4 : Code := { maxStack := 4, maxLocals := 26, code := code, exceptionTable := #[], attributes := #[] }
def k1m4 : Method := { name := "law", desc := "(IIII)Z", sig := { parameters := [.int, .int, .int, .int], returnType := some .boolean }, accessFlags := 9, code := some k1c4 }
/-- com/example/pandect/pandect/text/TextPositionAdvancePinLaw -/
def k1 : Class := { plain "com/example/pandect/pandect/text/TextPositionAdvancePinLaw" (some 0) with
  accessFlags := 49
  interfaces := #[]
  cf := some (fileOf pool1 8 #[] #[{ accessFlags := 1, nameIndex := 5, descriptorIndex := 6, attributes := #[] }, { accessFlags := 10, nameIndex := 11, descriptorIndex := 12, attributes := #[] }, { accessFlags := 10, nameIndex := 29, descriptorIndex := 30, attributes := #[] }, { accessFlags := 10, nameIndex := 35, descriptorIndex := 36, attributes := #[] }, { accessFlags := 9, nameIndex := 46, descriptorIndex := 47, attributes := #[] }] 49 2 #[] #[])
  fields := #[]
  methods := #[k1m0, k1m1, k1m2, k1m3, k1m4]
  instanceTypes := #[]
  staticTypes := #[]
  resolved := Array.replicate 50 none
  statics := none }

def pool2 : Array CpInfo := pool [(1, .methodref 2 3), (0, .class_ 4), (0, .nameAndType 5 6), (0, u "java/lang/Object"), (0, u "<init>"), (0, u "()V"), (0, .fieldref 8 9), (0, .class_ 10), (0, .nameAndType 11 12), (0, u "com/example/pandect/pandect/text/TextPosition"), (0, u "line"), (0, u "J"), (0, .fieldref 8 14), (0, .nameAndType 15 12), (0, u "column"), (0, .fieldref 8 17), (0, .nameAndType 18 19), (0, u "afterCarriageReturn"), (0, u "Z"), (3, u "advance"), (0, u "(I)V"), (2, u "()J")] 2

def k2c0 : Code := { maxStack := 3, maxLocals := 1, code := prog_133_method_1_code, exceptionTable := #[], attributes := #[] }
def k2m0 : Method := { name := "<init>", desc := "()V", sig := { parameters := [], returnType := none }, accessFlags := 1, code := some k2c0 }
def k2c1 : Code := { maxStack := 5, maxLocals := 2, code := prog_133_method_3_code, exceptionTable := #[], attributes := #[] }
def k2m1 : Method := { name := "advance", desc := "(I)V", sig := { parameters := [.int], returnType := none }, accessFlags := 1, code := some k2c1 }
def k2c2 : Code := { maxStack := 2, maxLocals := 1, code := prog_133_method_5_code, exceptionTable := #[], attributes := #[] }
def k2m2 : Method := { name := "line", desc := "()J", sig := { parameters := [], returnType := some .long }, accessFlags := 1, code := some k2c2 }
def k2c3 : Code := { maxStack := 2, maxLocals := 1, code := prog_133_method_6_code, exceptionTable := #[], attributes := #[] }
def k2m3 : Method := { name := "column", desc := "()J", sig := { parameters := [], returnType := some .long }, accessFlags := 1, code := some k2c3 }
/-- com/example/pandect/pandect/text/TextPosition -/
def k2 : Class := { plain "com/example/pandect/pandect/text/TextPosition" (some 0) with
  accessFlags := 49
  interfaces := #[]
  cf := some (fileOf pool2 8 #[] #[{ accessFlags := 1, nameIndex := 5, descriptorIndex := 6, attributes := #[] }, { accessFlags := 1, nameIndex := 23, descriptorIndex := 24, attributes := #[] }, { accessFlags := 1, nameIndex := 11, descriptorIndex := 27, attributes := #[] }, { accessFlags := 1, nameIndex := 15, descriptorIndex := 27, attributes := #[] }] 49 2 #[] #[{ accessFlags := 2, nameIndex := 11, descriptorIndex := 12, attributes := #[] }, { accessFlags := 2, nameIndex := 15, descriptorIndex := 12, attributes := #[] }, { accessFlags := 2, nameIndex := 18, descriptorIndex := 19, attributes := #[] }])
  fields := #[{ name := "line", type := .long, accessFlags := 2, slot := 0, constantValue := 0 }, { name := "column", type := .long, accessFlags := 2, slot := 1, constantValue := 0 }, { name := "afterCarriageReturn", type := .boolean, accessFlags := 2, slot := 2, constantValue := 0 }]
  methods := #[k2m0, k2m1, k2m2, k2m3]
  instanceTypes := #[.long, .long, .boolean]
  staticTypes := #[]
  resolved := Array.replicate 30 none
  statics := none }

def pool3 : Array CpInfo := pool [(1, u "java/lang/Cloneable"), (0, .class_ 1), (0, u "java/lang/Object"), (0, .class_ 3)] 3

/-- java/lang/Cloneable -/
def k3 : Class := { plain "java/lang/Cloneable" (some 0) with
  accessFlags := 1537
  interfaces := #[]
  cf := some (fileOf pool3 2 #[] #[] 1537 4 #[] #[])
  fields := #[]
  methods := #[]
  instanceTypes := #[]
  staticTypes := #[]
  resolved := Array.replicate 8 none
  statics := none }

def pool4 : Array CpInfo := pool [(1, u "java/io/Serializable"), (0, .class_ 1), (0, u "java/lang/Object"), (0, .class_ 3)] 3

/-- java/io/Serializable -/
def k4 : Class := { plain "java/io/Serializable" (some 0) with
  accessFlags := 1537
  interfaces := #[]
  cf := some (fileOf pool4 2 #[] #[] 1537 4 #[] #[])
  fields := #[]
  methods := #[]
  instanceTypes := #[]
  staticTypes := #[]
  resolved := Array.replicate 8 none
  statics := none }

/-- the primitive byte -/
def k5 : Class := { plain "byte" none with kind := .primitive 'B', accessFlags := 0x411 }
/-- [B -/
def k6 : Class := { plain "[B" (some 0) with kind := .array 5 .byte, interfaces := #[3, 4], accessFlags := 1041 }

/-- the primitive int -/
def k7 : Class := { plain "int" none with kind := .primitive 'I', accessFlags := 0x411 }
/-- [I -/
def k8 : Class := { plain "[I" (some 0) with kind := .array 7 .int, interfaces := #[3, 4], accessFlags := 1041 }

def heap : Heap := #[]
def classes : Array Class := #[k0, k1, k2, k3, k4, k5, k6, k7, k8]
def interned : List (Array UInt16 × Addr) := []
def slotsUsed : Nat := 0
def theMethod : MethodId := ⟨1, 4⟩
def args0 : Array Value := #[.int 5, .int 300, .int 7, .int 8]
def aboutOver (below : List Frame) : State where
  vm := { classes := classes, interned := interned.toArray }
  heap := heap
  slotsUsed := slotsUsed
  threads := #[{ frames := .invoking theMethod args0 :: below }]
def below0 : List Frame := [.native { method := ⟨0, 0⟩, args := #[] }]
def about1 : State := aboutOver below0
def p0 : Program := .bare "" "" ""
def e0 : Env := launch0.env 0 0 0
theorem w_frames : about1.frames = Frame.invoking theMethod args0 :: below0 := rfl
set_option maxRecDepth 65536 in
theorem w_args : argsFit about1.vm theMethod args0 = true := by decide +kernel
set_option maxRecDepth 65536 in
theorem w_heap : heapFits about1 = true := by decide +kernel
set_option maxRecDepth 65536 in
theorem w_runnable : about1.curStatus? = some .runnable := by decide +kernel
set_option maxRecDepth 65536 in
theorem w_alone : about1.alone = true := by decide +kernel
set_option maxRecDepth 65536 in
theorem w_named : about1.methodNamed? x = some theMethod := by decide +kernel
set_option maxRecDepth 65536 in
theorem w_hears : about1.hears theMethod below0 = true := by decide +kernel
set_option maxRecDepth 65536 in
theorem w_ripe : about1.ripe theMethod args0 below0 = true := by decide +kernel
theorem w_running : about1.status = .running := rfl
set_option maxRecDepth 65536 in
theorem w_room : about1.hasRoom e0.platform room_1 = true :=
  launch0.hasRoom_least _ room_1 (by decide +kernel) (by decide +kernel) (by decide +kernel) (by decide +kernel) (by decide +kernel) (by decide +kernel)
theorem allAtoms_all (ts : List Jvm.Cond) (a : Array Jvm.Value) (st : Jvm.State) : (allAtoms ts).before a st = ts.all (fun c => c.before a st) := by
  induction ts with
  | nil => rfl
  | cons c t ih =>
    show (Jvm.Cond.and c (allAtoms t)).before a st = _
    rw [Jvm.Cond.before_and, ih, List.all_cons]
def words1 : List Jvm.Cond := Jvm.Cond.code x code maxLocals ret :: tables_1
/-- a 'code' word, met by the world's own term for the bytes: nothing is compared byte by byte -/
theorem code_word {y : MethodName} {bytes : ByteArray} {mx : Nat} {rt : Option FieldType} {a : Array Value} {s : State} {m : MethodId} {meth : Method} {c : Code} (h1 : s.methodNamed? y = some m) (h2 : s.vm.method? m = some meth) (h3 : meth.code = some c) (h4 : c.code = bytes)
    (h5 : (c.maxLocals == mx && c.exceptionTable.isEmpty && decide (c.maxStack ≤ mostOperands) && decide (meth.sig.returnType = rt) && !meth.locks && decide (parseMethodDescriptor y.desc = some meth.sig)) = true) : (Jvm.Cond.code y bytes mx rt).before a s = true := by
  simp only [Bool.and_eq_true, beq_iff_eq, Bool.not_eq_true', decide_eq_true_eq] at h5
  obtain ⟨⟨⟨⟨⟨g1, g2⟩, g3⟩, g4⟩, g5⟩, g6⟩ := h5
  simp [Cond.before, Cond.holds, Cond.value, h1, h2, h3, h4, g1, g2, g3, g4, g5, g6]
def isCode : Jvm.Cond → Bool
  | .code _ _ _ _ => true
  | _ => false
theorem all_split {L : List Jvm.Cond} {P : Jvm.Cond → Bool} (h1 : L.all (fun c => isCode c || P c) = true) (h2 : ∀ c ∈ L.filter isCode, P c = true) : L.all P = true := by
  refine List.all_eq_true.mpr fun c hc => ?_
  have h := List.all_eq_true.mp h1 c hc
  rcases Bool.eq_false_or_eq_true (isCode c) with hi | hi
  · exact h2 c (List.mem_filter.mpr ⟨hc, hi⟩)
  · simpa [hi] using h
set_option maxRecDepth 65536 in
theorem w_c0 : (Jvm.Cond.code x code maxLocals ret).before args0 about1 = true := code_word (m := ⟨1, 4⟩) (meth := k1m4) (c := k1c4) (by decide +kernel) rfl rfl rfl (by decide +kernel)
set_option maxRecDepth 65536 in
theorem w_c1 : (Jvm.Cond.code ({ cls := "com/example/pandect/pandect/text/TextPositionAdvancePinLaw", name := "cp", desc := "(I)I" } : Jvm.MethodName) method_2_code (2 : Nat) (Option.some Jvm.ClassFile.FieldType.int)).before args0 about1 = true := code_word (m := ⟨1, 1⟩) (meth := k1m1) (c := k1c1) (by decide +kernel) rfl rfl rfl (by decide +kernel)
set_option maxRecDepth 65536 in
theorem w_c2 : (Jvm.Cond.code ({ cls := "com/example/pandect/pandect/text/TextPosition", name := "<init>", desc := "()V" } : Jvm.MethodName) prog_133_method_1_code (1 : Nat) (Option.none : Option Jvm.ClassFile.FieldType)).before args0 about1 = true := code_word (m := ⟨2, 0⟩) (meth := k2m0) (c := k2c0) (by decide +kernel) rfl rfl rfl (by decide +kernel)
set_option maxRecDepth 65536 in
theorem w_c3 : (Jvm.Cond.code ({ cls := "java/lang/Object", name := "<init>", desc := "()V" } : Jvm.MethodName) object_method_1_code (1 : Nat) (Option.none : Option Jvm.ClassFile.FieldType)).before args0 about1 = true := code_word (m := ⟨0, 0⟩) (meth := k0m0) (c := k0c0) (by decide +kernel) rfl rfl rfl (by decide +kernel)
set_option maxRecDepth 65536 in
theorem w_c4 : (Jvm.Cond.code ({ cls := "com/example/pandect/pandect/text/TextPosition", name := "line", desc := "()J" } : Jvm.MethodName) prog_133_method_5_code (1 : Nat) (Option.some Jvm.ClassFile.FieldType.long)).before args0 about1 = true := code_word (m := ⟨2, 2⟩) (meth := k2m2) (c := k2c2) (by decide +kernel) rfl rfl rfl (by decide +kernel)
set_option maxRecDepth 65536 in
theorem w_c5 : (Jvm.Cond.code ({ cls := "com/example/pandect/pandect/text/TextPosition", name := "column", desc := "()J" } : Jvm.MethodName) prog_133_method_6_code (1 : Nat) (Option.some Jvm.ClassFile.FieldType.long)).before args0 about1 = true := code_word (m := ⟨2, 3⟩) (meth := k2m3) (c := k2c3) (by decide +kernel) rfl rfl rfl (by decide +kernel)
set_option maxRecDepth 65536 in
theorem w_c6 : (Jvm.Cond.code ({ cls := "com/example/pandect/pandect/text/TextPosition", name := "advance", desc := "(I)V" } : Jvm.MethodName) prog_133_method_3_code (2 : Nat) (Option.none : Option Jvm.ClassFile.FieldType)).before args0 about1 = true := code_word (m := ⟨2, 1⟩) (meth := k2m1) (c := k2c1) (by decide +kernel) rfl rfl rfl (by decide +kernel)
set_option maxRecDepth 65536 in
theorem w_c7 : (Jvm.Cond.code ({ cls := "com/example/pandect/pandect/text/TextPositionAdvancePinLaw", name := "eol", desc := "(I)Z" } : Jvm.MethodName) method_3_code (1 : Nat) (Option.some Jvm.ClassFile.FieldType.boolean)).before args0 about1 = true := code_word (m := ⟨1, 2⟩) (meth := k1m2) (c := k1c2) (by decide +kernel) rfl rfl rfl (by decide +kernel)
set_option maxRecDepth 65536 in
theorem w_c8 : (Jvm.Cond.code ({ cls := "com/example/pandect/pandect/text/TextPositionAdvancePinLaw", name := "brk", desc := "(II)J" } : Jvm.MethodName) method_4_code (2 : Nat) (Option.some Jvm.ClassFile.FieldType.long)).before args0 about1 = true := code_word (m := ⟨1, 3⟩) (meth := k1m3) (c := k1c3) (by decide +kernel) rfl rfl rfl (by decide +kernel)
def codes1 : List Jvm.Cond := [Jvm.Cond.code x code maxLocals ret, Jvm.Cond.code ({ cls := "com/example/pandect/pandect/text/TextPositionAdvancePinLaw", name := "cp", desc := "(I)I" } : Jvm.MethodName) method_2_code (2 : Nat) (Option.some Jvm.ClassFile.FieldType.int), Jvm.Cond.code ({ cls := "com/example/pandect/pandect/text/TextPosition", name := "<init>", desc := "()V" } : Jvm.MethodName) prog_133_method_1_code (1 : Nat) (Option.none : Option Jvm.ClassFile.FieldType), Jvm.Cond.code ({ cls := "java/lang/Object", name := "<init>", desc := "()V" } : Jvm.MethodName) object_method_1_code (1 : Nat) (Option.none : Option Jvm.ClassFile.FieldType), Jvm.Cond.code ({ cls := "com/example/pandect/pandect/text/TextPosition", name := "line", desc := "()J" } : Jvm.MethodName) prog_133_method_5_code (1 : Nat) (Option.some Jvm.ClassFile.FieldType.long), Jvm.Cond.code ({ cls := "com/example/pandect/pandect/text/TextPosition", name := "column", desc := "()J" } : Jvm.MethodName) prog_133_method_6_code (1 : Nat) (Option.some Jvm.ClassFile.FieldType.long), Jvm.Cond.code ({ cls := "com/example/pandect/pandect/text/TextPosition", name := "advance", desc := "(I)V" } : Jvm.MethodName) prog_133_method_3_code (2 : Nat) (Option.none : Option Jvm.ClassFile.FieldType), Jvm.Cond.code ({ cls := "com/example/pandect/pandect/text/TextPositionAdvancePinLaw", name := "eol", desc := "(I)Z" } : Jvm.MethodName) method_3_code (1 : Nat) (Option.some Jvm.ClassFile.FieldType.boolean), Jvm.Cond.code ({ cls := "com/example/pandect/pandect/text/TextPositionAdvancePinLaw", name := "brk", desc := "(II)J" } : Jvm.MethodName) method_4_code (2 : Nat) (Option.some Jvm.ClassFile.FieldType.long)]
set_option maxRecDepth 65536 in
theorem codes_eq : words1.filter isCode = codes1 := rfl
theorem w_codes : ∀ c ∈ words1.filter isCode, c.before args0 about1 = true := by
  rw [codes_eq]
  intro c hc
  simp only [codes1, List.mem_cons, List.not_mem_nil, or_false] at hc
  rcases hc with rfl | rfl | rfl | rfl | rfl | rfl | rfl | rfl | rfl
  · exact w_c0
  · exact w_c1
  · exact w_c2
  · exact w_c3
  · exact w_c4
  · exact w_c5
  · exact w_c6
  · exact w_c7
  · exact w_c8
set_option maxRecDepth 65536 in
theorem w_t1 : (words1.take 24).all (fun c => isCode c || c.before args0 about1) = true := by decide +kernel
set_option maxRecDepth 65536 in
theorem w_t2 : (words1.drop 24).all (fun c => isCode c || c.before args0 about1) = true := by decide +kernel
theorem w_tables : (allAtoms (Jvm.Cond.code x code maxLocals ret :: tables_1)).before args0 about1 = true := by
  rw [allAtoms_all]
  show words1.all (fun c => c.before args0 about1) = true
  refine all_split ?_ w_codes
  rw [← List.take_append_drop 24 words1, List.all_append, w_t1, w_t2]
  rfl
set_option maxRecDepth 65536 in
theorem w_case : (Jvm.Cond.and given_1 narrow_1).before args0 about1 = true := by decide +kernel
theorem w_applies : (headSpec (Jvm.Cond.code x code maxLocals ret :: tables_1) room_1).applies x e0.platform about1 = true :=
  (Spec.applies_iff w_frames).mpr ⟨w_running, w_runnable, w_alone, w_named, w_hears, w_ripe, w_room, w_tables⟩
theorem atStart : AtStart classFile x code maxLocals ret World_1 tables_1 room_1 Calls_1 rest_1 Pre_1 launch0 p0 e0 about1 theMethod args0 below0 :=
  ⟨lists_1, trivial, launch0.admits_env _ _ _, launch0.least_env, fairChoices_fair.cas, fairChoices_fair.clock, w_frames, w_args, w_heap, w_applies, trivial, trivial, w_case⟩
end start1
theorem witness_1 : WitnessClaimed_1 := ⟨start1.p0, start1.e0, start1.about1, start1.theMethod, start1.args0, start1.below0, start1.atStart⟩
end Jvm.Pilot.@@N@@
