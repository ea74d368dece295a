import JvmDerived
import JvmDerived.Pilot.@@N@@Statement
import JvmDerived.Pilot.@@N@@Code
set_option linter.unusedVariables false
set_option linter.unusedSimpArgs false
namespace Jvm.RoadKit
open Sem ClassFile Op Lib Jvm.Stand Jvm.Free Jvm.LawKit
section New
variable {p : Program} {l : Launch} {e : Env} {R : Room} {s : State} {m : MethodId} {args : Array Value} {below : List Frame} {meth : Method} {c : Code} {T : State} {locs : List Loc} {cells slots : Nat}
theorem retI (X : Stand p l e R s m args below meth c T locs cells slots) (hx : p.tables.exec = Jvm.exec) {pc : Nat} {Ls : Array Slot} {z : Int32} {rest : List Value} (hret : meth.sig.returnType = some .int) (hd : decode c.code pc = .ok (.ireturn, 1)) {fs : List Frame}
    (hl : ∀ (f : JFrame) (acts : List Action), f.method = m → f.locked = none → f.entered = [] → (doReturn e (T.setTop f) acts (some (.int z))).1 = T.setFrames fs) : Steps p.tables e below (T.setTop (mkF m pc Ls (.int z :: rest))) (T.setFrames fs) := by
  have hm' : T.vm.method? m = some meth := X.method'
  have hn : narrow .int (.int z) = .int z := rfl
  show Steps p.tables e below (T.setTop { method := m, pc := pc, locals := Ls, stack := _ :: rest, locked := none }) _
  jvm_step X.here [X.here.top, hx, hd, hm', hret, hn]
  first | (intro acts; rw [hl _ acts rfl rfl rfl]) | rw [hl _ _ rfl rfl rfl]
  exact Steps.refl _
end New
end Jvm.RoadKit
namespace Jvm.Pilot.@@N@@
open Jvm Jvm.ClassFile Sem Op Lib Jvm.Free Jvm.Stand Jvm.LawKit Jvm.RoadKit Bundle Jvm.Pilot.@@N@@.Jvm.D
/-! my own layer: all goals of a walk have one shape -/
section Own
variable {p : Program} {l : Launch} {e : Env} {R : Room} {s : State} {m : MethodId} {args : Array Value} {below : List Frame} {meth : Method} {c : Code} {T : State} {locs : List Loc} {cells slots : Nat} {Q : Option Value → Heap → List Loc → Prop} {nc ns : Nat} {A B : State}
/-- from A the method comes to its end, with Q of what it returns, of the heap and of the places written -/
def own_Go (p : Program) (e : Env) (below : List Frame) (s : State) (Q : Option Value → Heap → List Loc → Prop) (nc ns : Nat) (A : State) : Prop :=
  ∃ s₂ o, Steps p.tables e below A s₂ ∧ s₂.status = .running ∧ Ended s₂ below o ∧ ∃ v L, o = .returned v ∧ Q v s₂.heap L ∧ FrameEnd s o s₂ L nc ns
theorem own_go (k : ∀ t, Steps p.tables e below B t → Steps p.tables e below A t) (h : own_Go p e below s Q nc ns B) : own_Go p e below s Q nc ns A := by
  obtain ⟨t, o, h1, h2⟩ := h
  exact ⟨t, o, k t h1, h2⟩
theorem own_end (X : Stand p l e R s m args below meth c T locs cells slots) {v : Option Value} (hv : meth.sig.returnType = none → v = none) (hlk : meth.locks = false) (hq : Q v T.heap locs) (hc : cells ≤ nc) (hs : slots ≤ ns)
    (hst : ∀ fs, (∀ (f : JFrame) (acts : List Action), f.method = m → f.locked = none → f.entered = [] → (doReturn e (T.setTop f) acts v).1 = T.setFrames fs) → Steps p.tables e below A (T.setFrames fs)) : own_Go p e below s Q nc ns A := by
  obtain ⟨fs, hr, hrun, hended, hW, hsame⟩ := X.leave (v := v) hv hlk
  exact ⟨_, _, hst fs hr, hrun, hended, v, locs, rfl, hq, ⟨_, rfl⟩, hW, hsame.mono hc hs⟩
theorem own_wide {cells' slots' : Nat} (X : Stand p l e R s m args below meth c T locs cells slots) (hc : cells ≤ cells') (hs : slots ≤ slots') : Stand p l e R s m args below meth c T locs cells' slots' :=
  { X with same := X.same.mono hc hs }
theorem own_lrem {tb : Tables} [Ours tb] {target : State} {g : JFrame} (h : At T m c below) (hx : tb.exec = Jvm.exec) (hg : g.method = m) {x y : Int64} {rest : List Value} (hd : decode c.code g.pc = .ok (.lrem, 1)) (hs : g.stack = .long y :: .long x :: rest) (hy : y ≠ 0)
    (hr : Steps tb e below (T.setTop { g with pc := g.pc + 1, stack := .long (x % y) :: rest }) target) : Steps tb e below (T.setTop g) target :=
  XS.lrem h hx hg hd hs hy (by rw [lrem_mod]; exact hr)
end Own
section Own2
variable {Z s : State} {a0 args : Array Value} {h : Heap} {a b : Addr} {C : String} {c : Cell} {ty : FieldType}
theorem own_selP {y : MethodName} {n : Nat} (hZ : Z.Warmed39 s.vm) (wi : (Jvm.Cond.instantiable y.cls n).before a0 Z = true) (w2 : (Jvm.Cond.instanceMethod y).before a0 Z = true) (w3 : (Jvm.Cond.privateMethod y).before a0 Z = true)
    (hy : y.cls ≠ "java/lang/invoke/MethodHandle" ∧ y.cls ≠ "java/lang/invoke/VarHandle" := by decide) : (Jvm.Cond.selects y.cls y y).before args s = true := by
  have wi' : (Jvm.Cond.instantiable y.cls n).before args s = true := mvT hZ wi
  obtain ⟨c, k, h1, h2, -, h4, -⟩ := Cond.instantiable_spec wi'
  have h5 : k.isInterface = false := by
    cases hk : k.isInterface
    · rfl
    · rw [hk] at h4; simp at h4
  exact selects_self_of_private h1 h2 h5 (Cond.privateMethod_at (mvP hZ w3 (args := #[]))) (mvT hZ w2) hy
theorem own_neA {n : Nat} (F : Exa Z h a C) (wi : (Jvm.Cond.instantiable C n).before a0 Z = true) (G : ∃ c, Arr Z h b c ty) : a ≠ b := by
  obtain ⟨c, G⟩ := G
  exact ne_arr F wi G
end Own2
def own_start (p1 : Int32) : Int32 := if p1 < (97 : Int32) then if p1 < (65 : Int32) then if p1 = (95 : Int32) then (1 : Int32) else (0 : Int32) else if (90 : Int32) < p1 then if p1 = (95 : Int32) then (1 : Int32) else (0 : Int32) else (1 : Int32) else if (122 : Int32) < p1 then if p1 < (65 : Int32) then if p1 = (95 : Int32) then (1 : Int32) else (0 : Int32) else if (90 : Int32) < p1 then if p1 = (95 : Int32) then (1 : Int32) else (0 : Int32) else (1 : Int32) else (1 : Int32)
def Q_rm1 (Z : State) (p1 : Int32) (h0 : Heap) (n0 : Nat) (v : Option Value) (h : Heap) (L : List Loc) : Prop := v = some (.int (own_start p1)) ∧ Fr n0 L ∧ h = h0
theorem own_pn0 : plainName "com/example/pandect/pandect/text/TokenReader" = true := by first | (simp [plainName, overriddenIn]; done) | decide +kernel
theorem d1_0 : decode prog_142_method_10_code 0 = .ok (.iload_n 0, 1) := by decide +kernel
theorem d1_1 : decode prog_142_method_10_code 1 = .ok (.bipush 97, 2) := by decide +kernel
theorem d1_3 : decode prog_142_method_10_code 3 = .ok (.if_icmp .lt 9, 3) := by decide +kernel
theorem d1_6 : decode prog_142_method_10_code 6 = .ok (.iload_n 0, 1) := by decide +kernel
theorem d1_7 : decode prog_142_method_10_code 7 = .ok (.bipush 122, 2) := by decide +kernel
theorem d1_9 : decode prog_142_method_10_code 9 = .ok (.if_icmp .le 21, 3) := by decide +kernel
theorem d1_12 : decode prog_142_method_10_code 12 = .ok (.iload_n 0, 1) := by decide +kernel
theorem d1_13 : decode prog_142_method_10_code 13 = .ok (.bipush 65, 2) := by decide +kernel
theorem d1_15 : decode prog_142_method_10_code 15 = .ok (.if_icmp .lt 9, 3) := by decide +kernel
theorem d1_18 : decode prog_142_method_10_code 18 = .ok (.iload_n 0, 1) := by decide +kernel
theorem d1_19 : decode prog_142_method_10_code 19 = .ok (.bipush 90, 2) := by decide +kernel
theorem d1_21 : decode prog_142_method_10_code 21 = .ok (.if_icmp .le 9, 3) := by decide +kernel
theorem d1_24 : decode prog_142_method_10_code 24 = .ok (.iload_n 0, 1) := by decide +kernel
theorem d1_25 : decode prog_142_method_10_code 25 = .ok (.bipush 95, 2) := by decide +kernel
theorem d1_27 : decode prog_142_method_10_code 27 = .ok (.if_icmp .ne 7, 3) := by decide +kernel
theorem d1_30 : decode prog_142_method_10_code 30 = .ok (.iconst 1, 1) := by decide +kernel
theorem d1_31 : decode prog_142_method_10_code 31 = .ok (.goto 4, 3) := by decide +kernel
theorem d1_34 : decode prog_142_method_10_code 34 = .ok (.iconst 0, 1) := by decide +kernel
theorem d1_35 : decode prog_142_method_10_code 35 = .ok (.ireturn, 1) := by decide +kernel
set_option maxRecDepth 65536 in
set_option maxHeartbeats 40000000 in
theorem rm1 (l : Launch) (Z : State) (a0 : Array Value) (hw : ∀ d ∈ tables_1, d.before a0 Z = true) (ws : List Jvm.Cond) (p1 : Int32) (h0 : Heap) (n0 : Nat) (Z0 : n0 ≤ h0.size)  :
    MetFree l (⟨"com/example/pandect/pandect/text/TokenReader", "isWordStart", "(I)Z"⟩ : MethodName) (head1 (Jvm.Cond.code (⟨"com/example/pandect/pandect/text/TokenReader", "isWordStart", "(I)Z"⟩ : MethodName) prog_142_method_10_code 1 (some .boolean) :: ws) ({ frames := 0, cells := 0, slots := 0, locals := 0 } : Room)) (fun aa U => aa = #[(.int p1)] ∧ Z.Warmed39 U.vm ∧ U.heap = h0) (fun _ _ _ _ _ => True) (fun _ U o U' => ∃ v L, o = .returned v ∧ Q_rm1 Z p1 h0 n0 v U'.heap L ∧ FrameEnd U o U' L ({ frames := 0, cells := 0, slots := 0, locals := 0 } : Room).cells ({ frames := 0, cells := 0, slots := 0, locals := 0 } : Room).slots) := by
  refine MetFree.of_bodySF (plainFor_of_name own_pn0) hisR ?_
  intro p e s m args below meth c s₁ Bd hml0 hP hK
  obtain ⟨rfl, hZ, hh⟩ := hP
  have hx := Bd.exec
  have hby := Bd.bytes
  have hml : c.maxLocals = 1 := hml0
  have hlk : meth.locks = false := BodyLoose.notSynchronized Bd
  have hown : s.vm.findClass "com/example/pandect/pandect/text/TokenReader" = some m.cls := findClass_of_methodNamed Bd.named
  have hnm := (name_of_methodNamed Bd.named Bd.method).1
  have X0 : Stand p l e ({ frames := 0, cells := 0, slots := 0, locals := 0 } : Room) s m #[(.int p1)] below meth c s₁ [] 0 0 := Stand.of_body Bd
  have e0 : s₁.heap = h0 := by rw [← hh, Bd.state]; rfl
  have N0 := Fr.nil n0
  show own_Go p e below s (Q_rm1 Z p1 h0 n0) 0 0 (s₁.setTop (entryFrame m #[(.int p1)] 1))
  refine own_go (B := s₁.setTop (mkF m 0 #[.val (.int p1)] [])) (fun tgt cont => (XT.entry rfl).trans cont) ?_
  refine own_go (B := s₁.setTop (mkF m 3 #[.val (.int p1)] [(.int (97 : Int32)), (.int p1)])) (fun tgt cont => ?_) ?_
  · refine XS.iloadN X0.here hx rfl (hb hby d1_0) rfl ?_
    refine XT.bipushV X0.here hx rfl (97 : Int32) (hb hby d1_1) rfl ?_
    exact cont
  by_cases hc1 : p1 < (97 : Int32)
  ·
    refine own_go (B := s₁.setTop (mkF m 15 #[.val (.int p1)] [(.int (65 : Int32)), (.int p1)])) (fun tgt cont => ?_) ?_
    · refine XS.icmpYes X0.here hx rfl (pc0 := 3) (pc' := 12) rfl (hb hby d1_3) rfl (XT.ii_lt_t hc1) (by decide) (by decide) ?_
      refine XS.iloadN X0.here hx rfl (hb hby d1_12) rfl ?_
      refine XT.bipushV X0.here hx rfl (65 : Int32) (hb hby d1_13) rfl ?_
      exact cont
    by_cases hc2 : p1 < (65 : Int32)
    ·
      refine own_go (B := s₁.setTop (mkF m 27 #[.val (.int p1)] [(.int (95 : Int32)), (.int p1)])) (fun tgt cont => ?_) ?_
      · refine XS.icmpYes X0.here hx rfl (pc0 := 15) (pc' := 24) rfl (hb hby d1_15) rfl (XT.ii_lt_t hc2) (by decide) (by decide) ?_
        refine XS.iloadN X0.here hx rfl (hb hby d1_24) rfl ?_
        refine XT.bipushV X0.here hx rfl (95 : Int32) (hb hby d1_25) rfl ?_
        exact cont
      by_cases hc3 : p1 = (95 : Int32)
      ·
        refine own_go (B := s₁.setTop (mkF m 35 #[.val (.int p1)] [(.int (1 : Int32))])) (fun tgt cont => ?_) ?_
        · refine XS.icmpNo X0.here hx rfl (hb hby d1_27) rfl (XT.ii_ne_f hc3) ?_
          refine XT.iconstV X0.here hx rfl (1 : Int32) (hb hby d1_30) rfl ?_
          refine XS.goto X0.here hx rfl (pc0 := 31) (pc' := 35) rfl (hb hby d1_31) (by decide) (by decide) ?_
          exact cont
        refine own_end X0 (v := some (.int (1 : Int32))) (fun h => by rw [Bd.returns] at h; cases h) hlk ?_ (by decide) (by decide) (fun fs hl => retN X0 hx (t := .boolean) Bd.returns (by simp) (hb hby d1_35) hl)
        exact ⟨(by unfold own_start; first | exact rfl | (simp only [if_pos hc1, if_pos hc2, if_pos hc3]; first | done | exact rfl)), N0, e0⟩
      ·
        refine own_go (B := s₁.setTop (mkF m 35 #[.val (.int p1)] [(.int (0 : Int32))])) (fun tgt cont => ?_) ?_
        · refine XS.icmpYes X0.here hx rfl (pc0 := 27) (pc' := 34) rfl (hb hby d1_27) rfl (XT.ii_ne_t hc3) (by decide) (by decide) ?_
          refine XT.iconstV X0.here hx rfl (0 : Int32) (hb hby d1_34) rfl ?_
          exact cont
        refine own_end X0 (v := some (.int (0 : Int32))) (fun h => by rw [Bd.returns] at h; cases h) hlk ?_ (by decide) (by decide) (fun fs hl => retN X0 hx (t := .boolean) Bd.returns (by simp) (hb hby d1_35) hl)
        exact ⟨(by unfold own_start; first | exact rfl | (simp only [if_pos hc1, if_pos hc2, if_neg hc3]; first | done | exact rfl)), N0, e0⟩
    ·
      refine own_go (B := s₁.setTop (mkF m 21 #[.val (.int p1)] [(.int (90 : Int32)), (.int p1)])) (fun tgt cont => ?_) ?_
      · refine XS.icmpNo X0.here hx rfl (hb hby d1_15) rfl (XT.ii_lt_f hc2) ?_
        refine XS.iloadN X0.here hx rfl (hb hby d1_18) rfl ?_
        refine XT.bipushV X0.here hx rfl (90 : Int32) (hb hby d1_19) rfl ?_
        exact cont
      by_cases hc4 : (90 : Int32) < p1
      ·
        refine own_go (B := s₁.setTop (mkF m 27 #[.val (.int p1)] [(.int (95 : Int32)), (.int p1)])) (fun tgt cont => ?_) ?_
        · refine XS.icmpNo X0.here hx rfl (hb hby d1_21) rfl (XT.ii_le_f hc4) ?_
          refine XS.iloadN X0.here hx rfl (hb hby d1_24) rfl ?_
          refine XT.bipushV X0.here hx rfl (95 : Int32) (hb hby d1_25) rfl ?_
          exact cont
        by_cases hc5 : p1 = (95 : Int32)
        ·
          refine own_go (B := s₁.setTop (mkF m 35 #[.val (.int p1)] [(.int (1 : Int32))])) (fun tgt cont => ?_) ?_
          · refine XS.icmpNo X0.here hx rfl (hb hby d1_27) rfl (XT.ii_ne_f hc5) ?_
            refine XT.iconstV X0.here hx rfl (1 : Int32) (hb hby d1_30) rfl ?_
            refine XS.goto X0.here hx rfl (pc0 := 31) (pc' := 35) rfl (hb hby d1_31) (by decide) (by decide) ?_
            exact cont
          refine own_end X0 (v := some (.int (1 : Int32))) (fun h => by rw [Bd.returns] at h; cases h) hlk ?_ (by decide) (by decide) (fun fs hl => retN X0 hx (t := .boolean) Bd.returns (by simp) (hb hby d1_35) hl)
          exact ⟨(by unfold own_start; first | exact rfl | (simp only [if_pos hc1, if_neg hc2, if_pos hc4, if_pos hc5]; first | done | exact rfl)), N0, e0⟩
        ·
          refine own_go (B := s₁.setTop (mkF m 35 #[.val (.int p1)] [(.int (0 : Int32))])) (fun tgt cont => ?_) ?_
          · refine XS.icmpYes X0.here hx rfl (pc0 := 27) (pc' := 34) rfl (hb hby d1_27) rfl (XT.ii_ne_t hc5) (by decide) (by decide) ?_
            refine XT.iconstV X0.here hx rfl (0 : Int32) (hb hby d1_34) rfl ?_
            exact cont
          refine own_end X0 (v := some (.int (0 : Int32))) (fun h => by rw [Bd.returns] at h; cases h) hlk ?_ (by decide) (by decide) (fun fs hl => retN X0 hx (t := .boolean) Bd.returns (by simp) (hb hby d1_35) hl)
          exact ⟨(by unfold own_start; first | exact rfl | (simp only [if_pos hc1, if_neg hc2, if_pos hc4, if_neg hc5]; first | done | exact rfl)), N0, e0⟩
      ·
        refine own_go (B := s₁.setTop (mkF m 35 #[.val (.int p1)] [(.int (1 : Int32))])) (fun tgt cont => ?_) ?_
        · refine XS.icmpYes X0.here hx rfl (pc0 := 21) (pc' := 30) rfl (hb hby d1_21) rfl (XT.ii_le_t hc4) (by decide) (by decide) ?_
          refine XT.iconstV X0.here hx rfl (1 : Int32) (hb hby d1_30) rfl ?_
          refine XS.goto X0.here hx rfl (pc0 := 31) (pc' := 35) rfl (hb hby d1_31) (by decide) (by decide) ?_
          exact cont
        refine own_end X0 (v := some (.int (1 : Int32))) (fun h => by rw [Bd.returns] at h; cases h) hlk ?_ (by decide) (by decide) (fun fs hl => retN X0 hx (t := .boolean) Bd.returns (by simp) (hb hby d1_35) hl)
        exact ⟨(by unfold own_start; first | exact rfl | (simp only [if_pos hc1, if_neg hc2, if_neg hc4]; first | done | exact rfl)), N0, e0⟩
  ·
    refine own_go (B := s₁.setTop (mkF m 9 #[.val (.int p1)] [(.int (122 : Int32)), (.int p1)])) (fun tgt cont => ?_) ?_
    · refine XS.icmpNo X0.here hx rfl (hb hby d1_3) rfl (XT.ii_lt_f hc1) ?_
      refine XS.iloadN X0.here hx rfl (hb hby d1_6) rfl ?_
      refine XT.bipushV X0.here hx rfl (122 : Int32) (hb hby d1_7) rfl ?_
      exact cont
    by_cases hc6 : (122 : Int32) < p1
    ·
      refine own_go (B := s₁.setTop (mkF m 15 #[.val (.int p1)] [(.int (65 : Int32)), (.int p1)])) (fun tgt cont => ?_) ?_
      · refine XS.icmpNo X0.here hx rfl (hb hby d1_9) rfl (XT.ii_le_f hc6) ?_
        refine XS.iloadN X0.here hx rfl (hb hby d1_12) rfl ?_
        refine XT.bipushV X0.here hx rfl (65 : Int32) (hb hby d1_13) rfl ?_
        exact cont
      by_cases hc7 : p1 < (65 : Int32)
      ·
        refine own_go (B := s₁.setTop (mkF m 27 #[.val (.int p1)] [(.int (95 : Int32)), (.int p1)])) (fun tgt cont => ?_) ?_
        · refine XS.icmpYes X0.here hx rfl (pc0 := 15) (pc' := 24) rfl (hb hby d1_15) rfl (XT.ii_lt_t hc7) (by decide) (by decide) ?_
          refine XS.iloadN X0.here hx rfl (hb hby d1_24) rfl ?_
          refine XT.bipushV X0.here hx rfl (95 : Int32) (hb hby d1_25) rfl ?_
          exact cont
        by_cases hc8 : p1 = (95 : Int32)
        ·
          refine own_go (B := s₁.setTop (mkF m 35 #[.val (.int p1)] [(.int (1 : Int32))])) (fun tgt cont => ?_) ?_
          · refine XS.icmpNo X0.here hx rfl (hb hby d1_27) rfl (XT.ii_ne_f hc8) ?_
            refine XT.iconstV X0.here hx rfl (1 : Int32) (hb hby d1_30) rfl ?_
            refine XS.goto X0.here hx rfl (pc0 := 31) (pc' := 35) rfl (hb hby d1_31) (by decide) (by decide) ?_
            exact cont
          refine own_end X0 (v := some (.int (1 : Int32))) (fun h => by rw [Bd.returns] at h; cases h) hlk ?_ (by decide) (by decide) (fun fs hl => retN X0 hx (t := .boolean) Bd.returns (by simp) (hb hby d1_35) hl)
          exact ⟨(by unfold own_start; first | exact rfl | (simp only [if_neg hc1, if_pos hc6, if_pos hc7, if_pos hc8]; first | done | exact rfl)), N0, e0⟩
        ·
          refine own_go (B := s₁.setTop (mkF m 35 #[.val (.int p1)] [(.int (0 : Int32))])) (fun tgt cont => ?_) ?_
          · refine XS.icmpYes X0.here hx rfl (pc0 := 27) (pc' := 34) rfl (hb hby d1_27) rfl (XT.ii_ne_t hc8) (by decide) (by decide) ?_
            refine XT.iconstV X0.here hx rfl (0 : Int32) (hb hby d1_34) rfl ?_
            exact cont
          refine own_end X0 (v := some (.int (0 : Int32))) (fun h => by rw [Bd.returns] at h; cases h) hlk ?_ (by decide) (by decide) (fun fs hl => retN X0 hx (t := .boolean) Bd.returns (by simp) (hb hby d1_35) hl)
          exact ⟨(by unfold own_start; first | exact rfl | (simp only [if_neg hc1, if_pos hc6, if_pos hc7, if_neg hc8]; first | done | exact rfl)), N0, e0⟩
      ·
        refine own_go (B := s₁.setTop (mkF m 21 #[.val (.int p1)] [(.int (90 : Int32)), (.int p1)])) (fun tgt cont => ?_) ?_
        · refine XS.icmpNo X0.here hx rfl (hb hby d1_15) rfl (XT.ii_lt_f hc7) ?_
          refine XS.iloadN X0.here hx rfl (hb hby d1_18) rfl ?_
          refine XT.bipushV X0.here hx rfl (90 : Int32) (hb hby d1_19) rfl ?_
          exact cont
        by_cases hc9 : (90 : Int32) < p1
        ·
          refine own_go (B := s₁.setTop (mkF m 27 #[.val (.int p1)] [(.int (95 : Int32)), (.int p1)])) (fun tgt cont => ?_) ?_
          · refine XS.icmpNo X0.here hx rfl (hb hby d1_21) rfl (XT.ii_le_f hc9) ?_
            refine XS.iloadN X0.here hx rfl (hb hby d1_24) rfl ?_
            refine XT.bipushV X0.here hx rfl (95 : Int32) (hb hby d1_25) rfl ?_
            exact cont
          by_cases hc10 : p1 = (95 : Int32)
          ·
            refine own_go (B := s₁.setTop (mkF m 35 #[.val (.int p1)] [(.int (1 : Int32))])) (fun tgt cont => ?_) ?_
            · refine XS.icmpNo X0.here hx rfl (hb hby d1_27) rfl (XT.ii_ne_f hc10) ?_
              refine XT.iconstV X0.here hx rfl (1 : Int32) (hb hby d1_30) rfl ?_
              refine XS.goto X0.here hx rfl (pc0 := 31) (pc' := 35) rfl (hb hby d1_31) (by decide) (by decide) ?_
              exact cont
            refine own_end X0 (v := some (.int (1 : Int32))) (fun h => by rw [Bd.returns] at h; cases h) hlk ?_ (by decide) (by decide) (fun fs hl => retN X0 hx (t := .boolean) Bd.returns (by simp) (hb hby d1_35) hl)
            exact ⟨(by unfold own_start; first | exact rfl | (simp only [if_neg hc1, if_pos hc6, if_neg hc7, if_pos hc9, if_pos hc10]; first | done | exact rfl)), N0, e0⟩
          ·
            refine own_go (B := s₁.setTop (mkF m 35 #[.val (.int p1)] [(.int (0 : Int32))])) (fun tgt cont => ?_) ?_
            · refine XS.icmpYes X0.here hx rfl (pc0 := 27) (pc' := 34) rfl (hb hby d1_27) rfl (XT.ii_ne_t hc10) (by decide) (by decide) ?_
              refine XT.iconstV X0.here hx rfl (0 : Int32) (hb hby d1_34) rfl ?_
              exact cont
            refine own_end X0 (v := some (.int (0 : Int32))) (fun h => by rw [Bd.returns] at h; cases h) hlk ?_ (by decide) (by decide) (fun fs hl => retN X0 hx (t := .boolean) Bd.returns (by simp) (hb hby d1_35) hl)
            exact ⟨(by unfold own_start; first | exact rfl | (simp only [if_neg hc1, if_pos hc6, if_neg hc7, if_pos hc9, if_neg hc10]; first | done | exact rfl)), N0, e0⟩
        ·
          refine own_go (B := s₁.setTop (mkF m 35 #[.val (.int p1)] [(.int (1 : Int32))])) (fun tgt cont => ?_) ?_
          · refine XS.icmpYes X0.here hx rfl (pc0 := 21) (pc' := 30) rfl (hb hby d1_21) rfl (XT.ii_le_t hc9) (by decide) (by decide) ?_
            refine XT.iconstV X0.here hx rfl (1 : Int32) (hb hby d1_30) rfl ?_
            refine XS.goto X0.here hx rfl (pc0 := 31) (pc' := 35) rfl (hb hby d1_31) (by decide) (by decide) ?_
            exact cont
          refine own_end X0 (v := some (.int (1 : Int32))) (fun h => by rw [Bd.returns] at h; cases h) hlk ?_ (by decide) (by decide) (fun fs hl => retN X0 hx (t := .boolean) Bd.returns (by simp) (hb hby d1_35) hl)
          exact ⟨(by unfold own_start; first | exact rfl | (simp only [if_neg hc1, if_pos hc6, if_neg hc7, if_neg hc9]; first | done | exact rfl)), N0, e0⟩
    ·
      refine own_go (B := s₁.setTop (mkF m 35 #[.val (.int p1)] [(.int (1 : Int32))])) (fun tgt cont => ?_) ?_
      · refine XS.icmpYes X0.here hx rfl (pc0 := 9) (pc' := 30) rfl (hb hby d1_9) rfl (XT.ii_le_t hc6) (by decide) (by decide) ?_
        refine XT.iconstV X0.here hx rfl (1 : Int32) (hb hby d1_30) rfl ?_
        refine XS.goto X0.here hx rfl (pc0 := 31) (pc' := 35) rfl (hb hby d1_31) (by decide) (by decide) ?_
        exact cont
      refine own_end X0 (v := some (.int (1 : Int32))) (fun h => by rw [Bd.returns] at h; cases h) hlk ?_ (by decide) (by decide) (fun fs hl => retN X0 hx (t := .boolean) Bd.returns (by simp) (hb hby d1_35) hl)
      exact ⟨(by unfold own_start; first | exact rfl | (simp only [if_neg hc1, if_neg hc6]; first | done | exact rfl)), N0, e0⟩
def own_ref (p1 : Int32) : Int32 := if (p1 ||| (32 : Int32)) < (97 : Int32) then if p1 = (95 : Int32) then (1 : Int32) else (0 : Int32) else if (122 : Int32) < (p1 ||| (32 : Int32)) then if p1 = (95 : Int32) then (1 : Int32) else (0 : Int32) else (1 : Int32)
def Q_rm2 (Z : State) (p1 : Int32) (h0 : Heap) (n0 : Nat) (v : Option Value) (h : Heap) (L : List Loc) : Prop := v = some (.int (own_ref p1)) ∧ Fr n0 L ∧ h = h0
theorem own_pn1 : plainName "com/example/pandect/pandect/text/TokenReaderIsWordStartPinLaw" = true := by first | (simp [plainName, overriddenIn]; done) | decide +kernel
theorem d2_0 : decode method_2_code 0 = .ok (.iload_n 0, 1) := by decide +kernel
theorem d2_1 : decode method_2_code 1 = .ok (.bipush 32, 2) := by decide +kernel
theorem d2_3 : decode method_2_code 3 = .ok (.ior, 1) := by decide +kernel
theorem d2_4 : decode method_2_code 4 = .ok (.istore_n 1, 1) := by decide +kernel
theorem d2_5 : decode method_2_code 5 = .ok (.iload_n 1, 1) := by decide +kernel
theorem d2_6 : decode method_2_code 6 = .ok (.bipush 97, 2) := by decide +kernel
theorem d2_8 : decode method_2_code 8 = .ok (.if_icmp .lt 13, 3) := by decide +kernel
theorem d2_11 : decode method_2_code 11 = .ok (.iload_n 1, 1) := by decide +kernel
theorem d2_12 : decode method_2_code 12 = .ok (.bipush 122, 2) := by decide +kernel
theorem d2_14 : decode method_2_code 14 = .ok (.if_icmp .gt 7, 3) := by decide +kernel
theorem d2_17 : decode method_2_code 17 = .ok (.iconst 1, 1) := by decide +kernel
theorem d2_18 : decode method_2_code 18 = .ok (.goto 4, 3) := by decide +kernel
theorem d2_21 : decode method_2_code 21 = .ok (.iconst 0, 1) := by decide +kernel
theorem d2_22 : decode method_2_code 22 = .ok (.istore_n 2, 1) := by decide +kernel
theorem d2_23 : decode method_2_code 23 = .ok (.iload_n 2, 1) := by decide +kernel
theorem d2_24 : decode method_2_code 24 = .ok (.ifCond .ne 9, 3) := by decide +kernel
theorem d2_27 : decode method_2_code 27 = .ok (.iload_n 0, 1) := by decide +kernel
theorem d2_28 : decode method_2_code 28 = .ok (.bipush 95, 2) := by decide +kernel
theorem d2_30 : decode method_2_code 30 = .ok (.if_icmp .ne 7, 3) := by decide +kernel
theorem d2_33 : decode method_2_code 33 = .ok (.iconst 1, 1) := by decide +kernel
theorem d2_34 : decode method_2_code 34 = .ok (.goto 4, 3) := by decide +kernel
theorem d2_37 : decode method_2_code 37 = .ok (.iconst 0, 1) := by decide +kernel
theorem d2_38 : decode method_2_code 38 = .ok (.ireturn, 1) := by decide +kernel
set_option maxRecDepth 65536 in
set_option maxHeartbeats 40000000 in
theorem rm2 (l : Launch) (Z : State) (a0 : Array Value) (hw : ∀ d ∈ tables_1, d.before a0 Z = true) (ws : List Jvm.Cond) (p1 : Int32) (h0 : Heap) (n0 : Nat) (Z0 : n0 ≤ h0.size)  :
    MetFree l (⟨"com/example/pandect/pandect/text/TokenReaderIsWordStartPinLaw", "reference", "(I)Z"⟩ : MethodName) (head1 (Jvm.Cond.code (⟨"com/example/pandect/pandect/text/TokenReaderIsWordStartPinLaw", "reference", "(I)Z"⟩ : MethodName) method_2_code 3 (some .boolean) :: ws) ({ frames := 0, cells := 0, slots := 0, locals := 0 } : Room)) (fun aa U => aa = #[(.int p1)] ∧ Z.Warmed39 U.vm ∧ U.heap = h0) (fun _ _ _ _ _ => True) (fun _ U o U' => ∃ v L, o = .returned v ∧ Q_rm2 Z p1 h0 n0 v U'.heap L ∧ FrameEnd U o U' L ({ frames := 0, cells := 0, slots := 0, locals := 0 } : Room).cells ({ frames := 0, cells := 0, slots := 0, locals := 0 } : Room).slots) := by
  refine MetFree.of_bodySF (plainFor_of_name own_pn1) hisR ?_
  intro p e s m args below meth c s₁ Bd hml0 hP hK
  obtain ⟨rfl, hZ, hh⟩ := hP
  have hx := Bd.exec
  have hby := Bd.bytes
  have hml : c.maxLocals = 3 := hml0
  have hlk : meth.locks = false := BodyLoose.notSynchronized Bd
  have hown : s.vm.findClass "com/example/pandect/pandect/text/TokenReaderIsWordStartPinLaw" = some m.cls := findClass_of_methodNamed Bd.named
  have hnm := (name_of_methodNamed Bd.named Bd.method).1
  have X0 : Stand p l e ({ frames := 0, cells := 0, slots := 0, locals := 0 } : Room) s m #[(.int p1)] below meth c s₁ [] 0 0 := Stand.of_body Bd
  have e0 : s₁.heap = h0 := by rw [← hh, Bd.state]; rfl
  have N0 := Fr.nil n0
  show own_Go p e below s (Q_rm2 Z p1 h0 n0) 0 0 (s₁.setTop (entryFrame m #[(.int p1)] 3))
  refine own_go (B := s₁.setTop (mkF m 0 #[.val (.int p1), .unset, .unset] [])) (fun tgt cont => (XT.entry rfl).trans cont) ?_
  refine own_go (B := s₁.setTop (mkF m 8 #[.val (.int p1), .val (.int (p1 ||| (32 : Int32))), .unset] [(.int (97 : Int32)), (.int (p1 ||| (32 : Int32)))])) (fun tgt cont => ?_) ?_
  · refine XS.iloadN X0.here hx rfl (hb hby d2_0) rfl ?_
    refine XT.bipushV X0.here hx rfl (32 : Int32) (hb hby d2_1) rfl ?_
    refine XS.ior X0.here hx rfl (hb hby d2_3) rfl ?_
    refine XS.istoreN X0.here hx rfl (hb hby d2_4) rfl (l' := #[.val (.int p1), .val (.int (p1 ||| (32 : Int32))), .unset]) rfl ?_
    refine XS.iloadN X0.here hx rfl (hb hby d2_5) rfl ?_
    refine XT.bipushV X0.here hx rfl (97 : Int32) (hb hby d2_6) rfl ?_
    exact cont
  by_cases hc1 : (p1 ||| (32 : Int32)) < (97 : Int32)
  ·
    refine own_go (B := s₁.setTop (mkF m 30 #[.val (.int p1), .val (.int (p1 ||| (32 : Int32))), .val (.int (0 : Int32))] [(.int (95 : Int32)), (.int p1)])) (fun tgt cont => ?_) ?_
    · refine XS.icmpYes X0.here hx rfl (pc0 := 8) (pc' := 21) rfl (hb hby d2_8) rfl (XT.ii_lt_t hc1) (by decide) (by decide) ?_
      refine XT.iconstV X0.here hx rfl (0 : Int32) (hb hby d2_21) rfl ?_
      refine XS.istoreN X0.here hx rfl (hb hby d2_22) rfl (l' := #[.val (.int p1), .val (.int (p1 ||| (32 : Int32))), .val (.int (0 : Int32))]) rfl ?_
      refine XS.iloadN X0.here hx rfl (hb hby d2_23) rfl ?_
      refine XS.ifNo X0.here hx rfl (hb hby d2_24) rfl (XT.i0_ne_f (by decide)) ?_
      refine XS.iloadN X0.here hx rfl (hb hby d2_27) rfl ?_
      refine XT.bipushV X0.here hx rfl (95 : Int32) (hb hby d2_28) rfl ?_
      exact cont
    by_cases hc2 : p1 = (95 : Int32)
    ·
      refine own_go (B := s₁.setTop (mkF m 38 #[.val (.int p1), .val (.int (p1 ||| (32 : Int32))), .val (.int (0 : Int32))] [(.int (1 : Int32))])) (fun tgt cont => ?_) ?_
      · refine XS.icmpNo X0.here hx rfl (hb hby d2_30) rfl (XT.ii_ne_f hc2) ?_
        refine XT.iconstV X0.here hx rfl (1 : Int32) (hb hby d2_33) rfl ?_
        refine XS.goto X0.here hx rfl (pc0 := 34) (pc' := 38) rfl (hb hby d2_34) (by decide) (by decide) ?_
        exact cont
      refine own_end X0 (v := some (.int (1 : Int32))) (fun h => by rw [Bd.returns] at h; cases h) hlk ?_ (by decide) (by decide) (fun fs hl => retN X0 hx (t := .boolean) Bd.returns (by simp) (hb hby d2_38) hl)
      exact ⟨(by unfold own_ref; first | exact rfl | (simp only [if_pos hc1, if_pos hc2]; first | done | exact rfl)), N0, e0⟩
    ·
      refine own_go (B := s₁.setTop (mkF m 38 #[.val (.int p1), .val (.int (p1 ||| (32 : Int32))), .val (.int (0 : Int32))] [(.int (0 : Int32))])) (fun tgt cont => ?_) ?_
      · refine XS.icmpYes X0.here hx rfl (pc0 := 30) (pc' := 37) rfl (hb hby d2_30) rfl (XT.ii_ne_t hc2) (by decide) (by decide) ?_
        refine XT.iconstV X0.here hx rfl (0 : Int32) (hb hby d2_37) rfl ?_
        exact cont
      refine own_end X0 (v := some (.int (0 : Int32))) (fun h => by rw [Bd.returns] at h; cases h) hlk ?_ (by decide) (by decide) (fun fs hl => retN X0 hx (t := .boolean) Bd.returns (by simp) (hb hby d2_38) hl)
      exact ⟨(by unfold own_ref; first | exact rfl | (simp only [if_pos hc1, if_neg hc2]; first | done | exact rfl)), N0, e0⟩
  ·
    refine own_go (B := s₁.setTop (mkF m 14 #[.val (.int p1), .val (.int (p1 ||| (32 : Int32))), .unset] [(.int (122 : Int32)), (.int (p1 ||| (32 : Int32)))])) (fun tgt cont => ?_) ?_
    · refine XS.icmpNo X0.here hx rfl (hb hby d2_8) rfl (XT.ii_lt_f hc1) ?_
      refine XS.iloadN X0.here hx rfl (hb hby d2_11) rfl ?_
      refine XT.bipushV X0.here hx rfl (122 : Int32) (hb hby d2_12) rfl ?_
      exact cont
    by_cases hc3 : (122 : Int32) < (p1 ||| (32 : Int32))
    ·
      refine own_go (B := s₁.setTop (mkF m 30 #[.val (.int p1), .val (.int (p1 ||| (32 : Int32))), .val (.int (0 : Int32))] [(.int (95 : Int32)), (.int p1)])) (fun tgt cont => ?_) ?_
      · refine XS.icmpYes X0.here hx rfl (pc0 := 14) (pc' := 21) rfl (hb hby d2_14) rfl (XT.ii_gt_t hc3) (by decide) (by decide) ?_
        refine XT.iconstV X0.here hx rfl (0 : Int32) (hb hby d2_21) rfl ?_
        refine XS.istoreN X0.here hx rfl (hb hby d2_22) rfl (l' := #[.val (.int p1), .val (.int (p1 ||| (32 : Int32))), .val (.int (0 : Int32))]) rfl ?_
        refine XS.iloadN X0.here hx rfl (hb hby d2_23) rfl ?_
        refine XS.ifNo X0.here hx rfl (hb hby d2_24) rfl (XT.i0_ne_f (by decide)) ?_
        refine XS.iloadN X0.here hx rfl (hb hby d2_27) rfl ?_
        refine XT.bipushV X0.here hx rfl (95 : Int32) (hb hby d2_28) rfl ?_
        exact cont
      by_cases hc4 : p1 = (95 : Int32)
      ·
        refine own_go (B := s₁.setTop (mkF m 38 #[.val (.int p1), .val (.int (p1 ||| (32 : Int32))), .val (.int (0 : Int32))] [(.int (1 : Int32))])) (fun tgt cont => ?_) ?_
        · refine XS.icmpNo X0.here hx rfl (hb hby d2_30) rfl (XT.ii_ne_f hc4) ?_
          refine XT.iconstV X0.here hx rfl (1 : Int32) (hb hby d2_33) rfl ?_
          refine XS.goto X0.here hx rfl (pc0 := 34) (pc' := 38) rfl (hb hby d2_34) (by decide) (by decide) ?_
          exact cont
        refine own_end X0 (v := some (.int (1 : Int32))) (fun h => by rw [Bd.returns] at h; cases h) hlk ?_ (by decide) (by decide) (fun fs hl => retN X0 hx (t := .boolean) Bd.returns (by simp) (hb hby d2_38) hl)
        exact ⟨(by unfold own_ref; first | exact rfl | (simp only [if_neg hc1, if_pos hc3, if_pos hc4]; first | done | exact rfl)), N0, e0⟩
      ·
        refine own_go (B := s₁.setTop (mkF m 38 #[.val (.int p1), .val (.int (p1 ||| (32 : Int32))), .val (.int (0 : Int32))] [(.int (0 : Int32))])) (fun tgt cont => ?_) ?_
        · refine XS.icmpYes X0.here hx rfl (pc0 := 30) (pc' := 37) rfl (hb hby d2_30) rfl (XT.ii_ne_t hc4) (by decide) (by decide) ?_
          refine XT.iconstV X0.here hx rfl (0 : Int32) (hb hby d2_37) rfl ?_
          exact cont
        refine own_end X0 (v := some (.int (0 : Int32))) (fun h => by rw [Bd.returns] at h; cases h) hlk ?_ (by decide) (by decide) (fun fs hl => retN X0 hx (t := .boolean) Bd.returns (by simp) (hb hby d2_38) hl)
        exact ⟨(by unfold own_ref; first | exact rfl | (simp only [if_neg hc1, if_pos hc3, if_neg hc4]; first | done | exact rfl)), N0, e0⟩
    ·
      refine own_go (B := s₁.setTop (mkF m 38 #[.val (.int p1), .val (.int (p1 ||| (32 : Int32))), .val (.int (1 : Int32))] [(.int (1 : Int32))])) (fun tgt cont => ?_) ?_
      · refine XS.icmpNo X0.here hx rfl (hb hby d2_14) rfl (XT.ii_gt_f hc3) ?_
        refine XT.iconstV X0.here hx rfl (1 : Int32) (hb hby d2_17) rfl ?_
        refine XS.goto X0.here hx rfl (pc0 := 18) (pc' := 22) rfl (hb hby d2_18) (by decide) (by decide) ?_
        refine XS.istoreN X0.here hx rfl (hb hby d2_22) rfl (l' := #[.val (.int p1), .val (.int (p1 ||| (32 : Int32))), .val (.int (1 : Int32))]) rfl ?_
        refine XS.iloadN X0.here hx rfl (hb hby d2_23) rfl ?_
        refine XS.ifYes X0.here hx rfl (pc0 := 24) (pc' := 33) rfl (hb hby d2_24) rfl (XT.i0_ne_t (by decide)) (by decide) (by decide) ?_
        refine XT.iconstV X0.here hx rfl (1 : Int32) (hb hby d2_33) rfl ?_
        refine XS.goto X0.here hx rfl (pc0 := 34) (pc' := 38) rfl (hb hby d2_34) (by decide) (by decide) ?_
        exact cont
      refine own_end X0 (v := some (.int (1 : Int32))) (fun h => by rw [Bd.returns] at h; cases h) hlk ?_ (by decide) (by decide) (fun fs hl => retN X0 hx (t := .boolean) Bd.returns (by simp) (hb hby d2_38) hl)
      exact ⟨(by unfold own_ref; first | exact rfl | (simp only [if_neg hc1, if_neg hc3]; first | done | exact rfl)), N0, e0⟩
theorem own_low : ∀ n : Fin 128, own_start (Int32.ofNat n.1) = own_ref (Int32.ofNat n.1) := by decide +kernel
theorem own_same (c : Int32) : own_start c = own_ref c := by
  by_cases hn : 0 ≤ c.toInt ∧ c.toInt < 128
  · have e : c = Int32.ofNat c.toInt.toNat := by
      apply Int32.toInt_inj.mp
      rw [Int32.toInt_ofNat_of_lt (by omega)]
      omega
    have h := own_low ⟨c.toInt.toNat, by omega⟩
    rw [← e] at h
    exact h
  · have h1 := (c_orS c 32).2.1
    have h2 : 0 ≤ c.toInt → 0 ≤ (32 : Int32).toInt → _ := c_or0 c 32
    have e32 : (32 : Int32).toInt = 32 := rfl
    have e65 : (65 : Int32).toInt = 65 := rfl
    have e90 : (90 : Int32).toInt = 90 := rfl
    have e95 : (95 : Int32).toInt = 95 := rfl
    have e97 : (97 : Int32).toInt = 97 := rfl
    have e122 : (122 : Int32).toInt = 122 := rfl
    unfold own_start own_ref
    simp only [Int32.lt_iff_toInt_lt, ← Int32.toInt_inj]
    simp only [e32, e65, e90, e95, e97, e122] at *
    generalize (c ||| 32).toInt = t at *
    generalize c.toInt = i at *
    repeat' split
    all_goals first | rfl | (exfalso; omega)
def Q0 (n0 : Nat) (v : Option Value) (h : Heap) (L : List Loc) : Prop := v = some (.int (1 : Int32)) ∧ Fr n0 L
theorem own_pd0 : parseMethodDescriptor "(I)Z" = some ⟨[.int], some .boolean⟩ := by decide +kernel
set_option maxRecDepth 65536 in
set_option maxHeartbeats 40000000 in
theorem rm0 (l : Launch) (Z : State) (a0 : Array Value) (hw : ∀ d ∈ tables_1, d.before a0 Z = true) (ws : List Jvm.Cond) (p1 : Int32) (p2 : Int32) (h0 : Heap) (n0 : Nat) (Z0 : n0 ≤ h0.size)  :
    MetFree l x (head1 (Jvm.Cond.code x code maxLocals ret :: ws) room_1) (fun aa U => aa = #[(.int p1), (.int p2)] ∧ Z.Warmed39 U.vm ∧ U.heap = h0) (fun _ _ _ _ _ => True) (fun _ U o U' => ∃ v L, o = .returned v ∧ Q0 n0 v U'.heap L ∧ FrameEnd U o U' L room_1.cells room_1.slots) := by
  refine MetFree.of_bodySF (plainFor_of_name own_pn1) hisR ?_
  intro p e s m args below meth c s₁ Bd hml0 hP hK
  obtain ⟨rfl, hZ, hh⟩ := hP
  have hx := Bd.exec
  have hby := Bd.bytes
  have hml : c.maxLocals = 5 := hml0
  have hlk : meth.locks = false := BodyLoose.notSynchronized Bd
  have hown : s.vm.findClass "com/example/pandect/pandect/text/TokenReaderIsWordStartPinLaw" = some m.cls := findClass_of_methodNamed Bd.named
  have hnm := (name_of_methodNamed Bd.named Bd.method).1
  have X0 : Stand p l e room_1 s m #[(.int p1), (.int p2)] below meth c s₁ [] 0 0 := Stand.of_body Bd
  have e0 : s₁.heap = h0 := by rw [← hh, Bd.state]; rfl
  have N0 := Fr.nil n0
  show own_Go p e below s (Q0 n0) room_1.cells room_1.slots (s₁.setTop (entryFrame m #[(.int p1), (.int p2)] maxLocals))
  refine own_go (B := s₁.setTop (mkF m 0 #[.val (.int p1), .val (.int p2), .unset, .unset, .unset] [])) (fun tgt cont => (XT.entry rfl).trans cont) ?_
  refine own_go (B := s₁.setTop (mkF m 7 #[.val (.int p1), .val (.int p2), .unset, .unset, .unset] [(.int ((64 : Int32) + (p2 &&& (63 : Int32))))])) (fun tgt cont => ?_) ?_
  · refine XT.bipushV X0.here hx rfl (64 : Int32) (hb hby at_0) rfl ?_
    refine XS.iloadN X0.here hx rfl (hb hby at_2) rfl ?_
    refine XT.bipushV X0.here hx rfl (63 : Int32) (hb hby at_3) rfl ?_
    refine XS.iand X0.here hx rfl (hb hby at_5) rfl ?_
    refine XS.iadd X0.here hx rfl (hb hby at_6) rfl ?_
    exact cont
  generalize hv1 : ((64 : Int32) + (p2 &&& (63 : Int32))) = v1
  refine own_go (B := s₁.setTop (mkF m 9 #[.val (.int p1), .val (.int p2), .val (.int v1), .unset, .unset] [(.int p1)])) (fun tgt cont => ?_) ?_
  · refine XS.istoreN X0.here hx rfl (hb hby at_7) rfl (l' := #[.val (.int p1), .val (.int p2), .val (.int v1), .unset, .unset]) rfl ?_
    refine XS.iloadN X0.here hx rfl (hb hby at_8) rfl ?_
    exact cont
  -- pc 9: TokenReader.isWordStart
  obtain ⟨_, _, ⟨T2, L2, k2, n2⟩, -, X2, ⟨Lc2, hQ2, l2, y2, z2⟩, st2⟩ := Jvm.LawKit.callS X0 hx (y := (⟨"com/example/pandect/pandect/text/TokenReader", "isWordStart", "(I)Z"⟩ : MethodName)) hown (mvT hZ (hw _ (List.mem_of_getElem? (i := 0) rfl))) (mvT hZ (hw _ (List.mem_of_getElem? (i := 1) rfl))) (mvT hZ (hw _ (List.mem_of_getElem? (i := 2) rfl))) (mvT hZ (hw _ (List.mem_of_getElem? (i := 3) rfl))) (by decide) (backOf (W := 0) (rm1 l Z a0 hw [] p1 h0 n0 Z0 ) hZ (hw _ (List.mem_of_getElem? (i := 3) rfl)) (hw _ (List.mem_of_getElem? (i := 2) rfl)) (by decide) (by decide)) (g := (mkF m 9 #[.val (.int p1), .val (.int p2), .val (.int v1), .unset, .unset] [(.int p1)])) rfl (by rw [hml]; rfl) (argsL := [(.int p1)]) (rest := []) (lenOf own_pd0 rfl) rfl (by show 2 * 0 + _ ≤ _; exact Nat.le_of_eq rfl) (hb hby at_9) (fun _ _ => ⟨rfl, e0, (by decide : 0 + 0 ≤ _), (by decide : 0 + 0 ≤ _)⟩)
  dsimp only [Pt.U, Pt.locs, Pt.cells, Pt.slots] at X2 l2 y2 z2 st2 hQ2
  subst l2 y2 z2
  obtain ⟨rfl, N2q, e2⟩ := hQ2
  have N2 := Fr.app N0 N2q
  refine own_go (fun tgt cont => st2 tgt cont) ?_
  show own_Go p e below s (Q0 n0) room_1.cells room_1.slots (T2.setTop (mkF m 12 #[.val (.int p1), .val (.int p2), .val (.int v1), .unset, .unset] [(.int (own_start p1))]))
  generalize hr3 : (own_start p1) = r3
  refine own_go (B := T2.setTop (mkF m 13 #[.val (.int p1), .val (.int p2), .val (.int v1), .unset, .unset] [(.int p1), (.int r3)])) (fun tgt cont => ?_) ?_
  · refine XS.iloadN X2.here hx rfl (hb hby at_12) rfl ?_
    exact cont
  -- pc 13: TokenReaderIsWordStartPinLaw.reference
  obtain ⟨_, _, ⟨T4, L4, k4, n4⟩, -, X4, ⟨Lc4, hQ4, l4, y4, z4⟩, st4⟩ := Jvm.LawKit.callS X2 hx (y := (⟨"com/example/pandect/pandect/text/TokenReaderIsWordStartPinLaw", "reference", "(I)Z"⟩ : MethodName)) hown (mvT hZ (hw _ (List.mem_of_getElem? (i := 4) rfl))) (mvT hZ (hw _ (List.mem_of_getElem? (i := 5) rfl))) (mvT hZ (hw _ (List.mem_of_getElem? (i := 6) rfl))) (mvT hZ (hw _ (List.mem_of_getElem? (i := 7) rfl))) (by decide) (backOf (W := 1) (rm2 l Z a0 hw [] p1 h0 n0 Z0 ) hZ (hw _ (List.mem_of_getElem? (i := 7) rfl)) (hw _ (List.mem_of_getElem? (i := 6) rfl)) (by decide) (by decide)) (g := (mkF m 13 #[.val (.int p1), .val (.int p2), .val (.int v1), .unset, .unset] [(.int p1), (.int r3)])) rfl (by rw [hml]; rfl) (argsL := [(.int p1)]) (rest := [(.int r3)]) (lenOf own_pd0 rfl) rfl (by show 2 * 0 + _ ≤ _; exact Nat.le_of_eq rfl) (hb hby at_13) (fun _ _ => ⟨rfl, e2, (by decide : 0 + 0 + 0 ≤ _), (by decide : 0 + 0 + 0 ≤ _)⟩)
  dsimp only [Pt.U, Pt.locs, Pt.cells, Pt.slots] at X4 l4 y4 z4 st4 hQ4
  subst l4 y4 z4
  obtain ⟨rfl, N4q, e4⟩ := hQ4
  have N4 := Fr.app N2 N4q
  refine own_go (fun tgt cont => st4 tgt cont) ?_
  show own_Go p e below s (Q0 n0) room_1.cells room_1.slots (T4.setTop (mkF m 16 #[.val (.int p1), .val (.int p2), .val (.int v1), .unset, .unset] [(.int (own_ref p1)), (.int r3)]))
  generalize hr5 : (own_ref p1) = r5
  have K6 : ∀ (v7 : Int32) (hv7 : v7 = (if r3 = r5 then (1 : Int32) else (0 : Int32))), own_Go p e below s (Q0 n0) room_1.cells room_1.slots (T4.setTop (mkF m 24 #[.val (.int p1), .val (.int p2), .val (.int v1), .unset, .unset] [(.int v7)])) := by
    intro v7 hv7
    refine own_go (B := T4.setTop (mkF m 26 #[.val (.int p1), .val (.int p2), .val (.int v1), .val (.int v7), .unset] [(.int v1)])) (fun tgt cont => ?_) ?_
    · refine XS.istoreN X4.here hx rfl (hb hby at_24) rfl (l' := #[.val (.int p1), .val (.int p2), .val (.int v1), .val (.int v7), .unset]) rfl ?_
      refine XS.iloadN X4.here hx rfl (hb hby at_25) rfl ?_
      exact cont
    -- pc 26: TokenReader.isWordStart
    obtain ⟨_, _, ⟨T8, L8, k8, n8⟩, -, X8, ⟨Lc8, hQ8, l8, y8, z8⟩, st8⟩ := Jvm.LawKit.callS X4 hx (y := (⟨"com/example/pandect/pandect/text/TokenReader", "isWordStart", "(I)Z"⟩ : MethodName)) hown (mvT hZ (hw _ (List.mem_of_getElem? (i := 0) rfl))) (mvT hZ (hw _ (List.mem_of_getElem? (i := 1) rfl))) (mvT hZ (hw _ (List.mem_of_getElem? (i := 2) rfl))) (mvT hZ (hw _ (List.mem_of_getElem? (i := 3) rfl))) (by decide) (backOf (W := 0) (rm1 l Z a0 hw [] v1 h0 n0 Z0 ) hZ (hw _ (List.mem_of_getElem? (i := 3) rfl)) (hw _ (List.mem_of_getElem? (i := 2) rfl)) (by decide) (by decide)) (g := (mkF m 26 #[.val (.int p1), .val (.int p2), .val (.int v1), .val (.int v7), .unset] [(.int v1)])) rfl (by rw [hml]; rfl) (argsL := [(.int v1)]) (rest := []) (lenOf own_pd0 rfl) rfl (by show 2 * 0 + _ ≤ _; exact Nat.le_of_eq rfl) (hb hby at_26) (fun _ _ => ⟨rfl, e4, (by decide : 0 + 0 + 0 + 0 ≤ _), (by decide : 0 + 0 + 0 + 0 ≤ _)⟩)
    dsimp only [Pt.U, Pt.locs, Pt.cells, Pt.slots] at X8 l8 y8 z8 st8 hQ8
    subst l8 y8 z8
    obtain ⟨rfl, N8q, e8⟩ := hQ8
    have N8 := Fr.app N4 N8q
    refine own_go (fun tgt cont => st8 tgt cont) ?_
    show own_Go p e below s (Q0 n0) room_1.cells room_1.slots (T8.setTop (mkF m 29 #[.val (.int p1), .val (.int p2), .val (.int v1), .val (.int v7), .unset] [(.int (own_start v1))]))
    generalize hr9 : (own_start v1) = r9
    refine own_go (B := T8.setTop (mkF m 30 #[.val (.int p1), .val (.int p2), .val (.int v1), .val (.int v7), .unset] [(.int v1), (.int r9)])) (fun tgt cont => ?_) ?_
    · refine XS.iloadN X8.here hx rfl (hb hby at_29) rfl ?_
      exact cont
    -- pc 30: TokenReaderIsWordStartPinLaw.reference
    obtain ⟨_, _, ⟨T10, L10, k10, n10⟩, -, X10, ⟨Lc10, hQ10, l10, y10, z10⟩, st10⟩ := Jvm.LawKit.callS X8 hx (y := (⟨"com/example/pandect/pandect/text/TokenReaderIsWordStartPinLaw", "reference", "(I)Z"⟩ : MethodName)) hown (mvT hZ (hw _ (List.mem_of_getElem? (i := 4) rfl))) (mvT hZ (hw _ (List.mem_of_getElem? (i := 5) rfl))) (mvT hZ (hw _ (List.mem_of_getElem? (i := 6) rfl))) (mvT hZ (hw _ (List.mem_of_getElem? (i := 7) rfl))) (by decide) (backOf (W := 1) (rm2 l Z a0 hw [] v1 h0 n0 Z0 ) hZ (hw _ (List.mem_of_getElem? (i := 7) rfl)) (hw _ (List.mem_of_getElem? (i := 6) rfl)) (by decide) (by decide)) (g := (mkF m 30 #[.val (.int p1), .val (.int p2), .val (.int v1), .val (.int v7), .unset] [(.int v1), (.int r9)])) rfl (by rw [hml]; rfl) (argsL := [(.int v1)]) (rest := [(.int r9)]) (lenOf own_pd0 rfl) rfl (by show 2 * 0 + _ ≤ _; exact Nat.le_of_eq rfl) (hb hby at_30) (fun _ _ => ⟨rfl, e8, (by decide : 0 + 0 + 0 + 0 + 0 ≤ _), (by decide : 0 + 0 + 0 + 0 + 0 ≤ _)⟩)
    dsimp only [Pt.U, Pt.locs, Pt.cells, Pt.slots] at X10 l10 y10 z10 st10 hQ10
    subst l10 y10 z10
    obtain ⟨rfl, N10q, e10⟩ := hQ10
    have N10 := Fr.app N8 N10q
    refine own_go (fun tgt cont => st10 tgt cont) ?_
    show own_Go p e below s (Q0 n0) room_1.cells room_1.slots (T10.setTop (mkF m 33 #[.val (.int p1), .val (.int p2), .val (.int v1), .val (.int v7), .unset] [(.int (own_ref v1)), (.int r9)]))
    generalize hr11 : (own_ref v1) = r11
    have K12 : ∀ (v13 : Int32) (hv13 : v13 = (if r9 = r11 then (1 : Int32) else (0 : Int32))), own_Go p e below s (Q0 n0) room_1.cells room_1.slots (T10.setTop (mkF m 41 #[.val (.int p1), .val (.int p2), .val (.int v1), .val (.int v7), .unset] [(.int v13)])) := by
      intro v13 hv13
      refine own_go (B := T10.setTop (mkF m 44 #[.val (.int p1), .val (.int p2), .val (.int v1), .val (.int v7), .val (.int v13)] [(.int v7)])) (fun tgt cont => ?_) ?_
      · refine XS.istore X10.here hx rfl (hb hby at_41) rfl (l' := #[.val (.int p1), .val (.int p2), .val (.int v1), .val (.int v7), .val (.int v13)]) rfl ?_
        refine XS.iloadN X10.here hx rfl (hb hby at_43) rfl ?_
        exact cont
      by_cases hc14 : v7 = 0
      ·
        refine own_go (B := T10.setTop (mkF m 57 #[.val (.int p1), .val (.int p2), .val (.int v1), .val (.int v7), .val (.int v13)] [(.int (0 : Int32))])) (fun tgt cont => ?_) ?_
        · refine XS.ifYes X10.here hx rfl (pc0 := 44) (pc' := 56) rfl (hb hby at_44) rfl (XT.i0_eq_t hc14) (by decide) (by decide) ?_
          refine XT.iconstV X10.here hx rfl (0 : Int32) (hb hby at_56) rfl ?_
          exact cont
        refine own_end X10 (v := some (.int (0 : Int32))) (fun h => by rw [Bd.returns] at h; cases h) hlk ?_ (by decide) (by decide) (fun fs hl => retN X10 hx (t := .boolean) Bd.returns (by simp) (hb hby at_57) hl)
        refine ⟨?_, N10⟩
        subst hr3 hr5 hv7
        rw [if_pos (own_same p1)] at hc14
        exact absurd hc14 (by decide)
      ·
        refine own_go (B := T10.setTop (mkF m 49 #[.val (.int p1), .val (.int p2), .val (.int v1), .val (.int v7), .val (.int v13)] [(.int v13)])) (fun tgt cont => ?_) ?_
        · refine XS.ifNo X10.here hx rfl (hb hby at_44) rfl (XT.i0_eq_f hc14) ?_
          refine XS.iload X10.here hx rfl (hb hby at_47) rfl ?_
          exact cont
        by_cases hc15 : v13 = 0
        ·
          refine own_go (B := T10.setTop (mkF m 57 #[.val (.int p1), .val (.int p2), .val (.int v1), .val (.int v7), .val (.int v13)] [(.int (0 : Int32))])) (fun tgt cont => ?_) ?_
          · refine XS.ifYes X10.here hx rfl (pc0 := 49) (pc' := 56) rfl (hb hby at_49) rfl (XT.i0_eq_t hc15) (by decide) (by decide) ?_
            refine XT.iconstV X10.here hx rfl (0 : Int32) (hb hby at_56) rfl ?_
            exact cont
          refine own_end X10 (v := some (.int (0 : Int32))) (fun h => by rw [Bd.returns] at h; cases h) hlk ?_ (by decide) (by decide) (fun fs hl => retN X10 hx (t := .boolean) Bd.returns (by simp) (hb hby at_57) hl)
          refine ⟨?_, N10⟩
          subst hr9 hr11 hv13
          rw [if_pos (own_same v1)] at hc15
          exact absurd hc15 (by decide)
        ·
          refine own_go (B := T10.setTop (mkF m 57 #[.val (.int p1), .val (.int p2), .val (.int v1), .val (.int v7), .val (.int v13)] [(.int (1 : Int32))])) (fun tgt cont => ?_) ?_
          · refine XS.ifNo X10.here hx rfl (hb hby at_49) rfl (XT.i0_eq_f hc15) ?_
            refine XT.iconstV X10.here hx rfl (1 : Int32) (hb hby at_52) rfl ?_
            refine XS.goto X10.here hx rfl (pc0 := 53) (pc' := 57) rfl (hb hby at_53) (by decide) (by decide) ?_
            exact cont
          refine own_end X10 (v := some (.int (1 : Int32))) (fun h => by rw [Bd.returns] at h; cases h) hlk ?_ (by decide) (by decide) (fun fs hl => retN X10 hx (t := .boolean) Bd.returns (by simp) (hb hby at_57) hl)
          exact ⟨rfl, N10⟩
    by_cases hc16 : r9 = r11
    ·
      refine own_go (B := T10.setTop (mkF m 41 #[.val (.int p1), .val (.int p2), .val (.int v1), .val (.int v7), .unset] [(.int (1 : Int32))])) (fun tgt cont => ?_) ?_
      · refine XS.icmpNo X10.here hx rfl (hb hby at_33) rfl (XT.ii_ne_f hc16) ?_
        refine XT.iconstV X10.here hx rfl (1 : Int32) (hb hby at_36) rfl ?_
        refine XS.goto X10.here hx rfl (pc0 := 37) (pc' := 41) rfl (hb hby at_37) (by decide) (by decide) ?_
        exact cont
      exact K12 (1 : Int32) (by simp only [if_pos hc16])
    ·
      refine own_go (B := T10.setTop (mkF m 41 #[.val (.int p1), .val (.int p2), .val (.int v1), .val (.int v7), .unset] [(.int (0 : Int32))])) (fun tgt cont => ?_) ?_
      · refine XS.icmpYes X10.here hx rfl (pc0 := 33) (pc' := 40) rfl (hb hby at_33) rfl (XT.ii_ne_t hc16) (by decide) (by decide) ?_
        refine XT.iconstV X10.here hx rfl (0 : Int32) (hb hby at_40) rfl ?_
        exact cont
      exact K12 (0 : Int32) (by simp only [if_neg hc16])
  by_cases hc17 : r3 = r5
  ·
    refine own_go (B := T4.setTop (mkF m 24 #[.val (.int p1), .val (.int p2), .val (.int v1), .unset, .unset] [(.int (1 : Int32))])) (fun tgt cont => ?_) ?_
    · refine XS.icmpNo X4.here hx rfl (hb hby at_16) rfl (XT.ii_ne_f hc17) ?_
      refine XT.iconstV X4.here hx rfl (1 : Int32) (hb hby at_19) rfl ?_
      refine XS.goto X4.here hx rfl (pc0 := 20) (pc' := 24) rfl (hb hby at_20) (by decide) (by decide) ?_
      exact cont
    exact K6 (1 : Int32) (by simp only [if_pos hc17])
  ·
    refine own_go (B := T4.setTop (mkF m 24 #[.val (.int p1), .val (.int p2), .val (.int v1), .unset, .unset] [(.int (0 : Int32))])) (fun tgt cont => ?_) ?_
    · refine XS.icmpYes X4.here hx rfl (pc0 := 16) (pc' := 23) rfl (hb hby at_16) rfl (XT.ii_ne_t hc17) (by decide) (by decide) ?_
      refine XT.iconstV X4.here hx rfl (0 : Int32) (hb hby at_23) rfl ?_
      exact cont
    exact K6 (0 : Int32) (by simp only [if_neg hc17])
set_option maxRecDepth 65536 in
set_option maxHeartbeats 40000000 in
theorem comes_1 {Post : Tables → Env → Array Value → State → Outcome → State → Prop} (hpost : ∀ tb e args s v u, (limb_1_1.after args s (.returned v) u = true ∧ limb_1_2.after args s (.returned v) u = true ∧ True) → FrameEnd s (.returned v) u (Jvm.fieldLocs frame_1_writes args s ++ Jvm.arrayLocs frame_1_arrays args s ++ Jvm.staticLocs frame_1_statics s) 0 0 → Post tb e args s (.returned v) u) :
    ArmFor flags0 classFile x code maxLocals ret World_1 tables_1 room_1 Calls_1 rest_1 Pre_1 Post := by
  intro l hfl _ _ p e ha hc hk s m args below hf hA hF happ hP
  obtain ⟨hcalls, hrest, hpre⟩ := hP
  obtain ⟨-, -, -, hnamed, -, -, -, hat⟩ := (Spec.applies_iff hf).mp happ
  obtain ⟨hg, hn⟩ := and_e (Cond.before_iff.mp (show (Jvm.Cond.and given_1 narrow_1).before args s = true from hpre))
  obtain ⟨g0, gr0⟩ := and_e hg
  obtain ⟨ga0, gr1⟩ := and_e gr0
  obtain ⟨w0, w1, rfl⟩ : ∃ w0 w1 : Value, args = #[w0, w1] := by
    have hs : args.size = 2 := by simpa [Cond.value, given_1] using g0
    obtain ⟨L⟩ := args
    match L, hs with
    | [w0, w1], _ => exact ⟨w0, w1, rfl⟩
  have hw := fun d (hd : d ∈ tables_1) => atoms_spec (ws := Jvm.Cond.code x code maxLocals ret :: tables_1) hat d (List.mem_cons_of_mem _ hd)
  obtain ⟨i0, ei0⟩ := is_v ga0
  obtain rfl : w0 = (.int i0) := Option.some.inj ei0
  obtain ⟨i1, ei1⟩ := is_v gr1
  obtain rfl : w1 = (.int i1) := Option.some.inj ei1
  obtain ⟨n, o, h1, h2, h3, _, L, rfl, ⟨rfl, N⟩, hq⟩ := rm0 l s _ hw tables_1 i0 i1 s.heap s.heap.size (Nat.le_refl _) p e ha hc hk s m _ below hf ((Spec.applies_iff_loose hf).mp happ).1 ⟨rfl, State.Warmed39.refl s, rfl⟩ trivial
  refine ⟨n, _, h1, h2, h3, hpost _ _ _ _ _ _ ⟨Cond.after_iff.mpr rfl, Cond.after_iff.mpr (eq_i res_at (Term.int_eval (1)) rfl), trivial⟩ ⟨hq.1, hq.2.1, (hq.2.2.sift fun y hy => Or.inr (N y hy)).mono (by decide) (by decide)⟩⟩
theorem main_1_1 : Claimed_1_1 := comes_1 fun _ _ _ _ _ _ h hF => ⟨h.1, hF⟩
theorem main_1_2 : Claimed_1_2 := comes_1 fun _ _ _ _ _ _ h hF => ⟨h.2.1, hF⟩
end Jvm.Pilot.@@N@@
namespace Jvm.Pilot.@@N@@
open Jvm Jvm.ClassFile Sem Op Lib Jvm.Free Jvm.Stand Jvm.Pilot.@@N@@.Jvm.D
/-! MADE BY PROGRAM (witnessworld.py) out of the Statement's table words and the real class files: 9 classes; the members and pool entries that the words name. The judged class is class 1, her method 2. -/
namespace start1
open Jvm.ClassFile
def u (s : String) : CpInfo := .utf8 (stringToUtf16 s)
/-- a pool by its gaps: so many unusable entries, then the entry; so many at the end -/
def gap : Nat → List CpInfo → List CpInfo
  | 0, r => r
  | n + 1, r => .unusable :: gap n r
def poolList (es : List (Nat × CpInfo)) (last : Nat) : List CpInfo := es.foldr (fun e r => gap e.1 (e.2 :: r)) (gap last [])
def pool (es : List (Nat × CpInfo)) (last : Nat) : Array CpInfo := ⟨poolList es last⟩
def fileOf (pool : Array CpInfo) (this : Nat) (attrs : Array Attribute := #[]) (ms : Array MethodInfo := #[]) (fl : Nat := 33) (sup : Nat := 0) (ifs : Array Nat := #[]) (fds : Array FieldInfo := #[]) : ClassFile where
  minorVersion := 0
  majorVersion := 65
  constantPool := pool
  accessFlags := fl
  thisClass := this
  superClass := sup
  interfaces := ifs
  fields := fds
  methods := ms
  attributes := attrs
def plain (name : String) (sup : Option ClassId) : Class where
  name := name
  kind := .ordinary
  loader := none
  accessFlags := 33
  super := sup
  interfaces := #[]
  cf := none
  fields := #[]
  methods := #[]
  instanceTypes := #[]
  staticTypes := #[]
  resolved := #[]
  callSites := []
  init := .initialized
  statics := none
  mirror := none

def pool0 : Array CpInfo := pool [(5, u "<init>"), (0, u "()V"), (1, .class_ 10), (1, u "java/lang/Object")] 113

def k0m0 : Method := { name := "<init>", desc := "()V", sig := { parameters := [], returnType := none }, accessFlags := 1, code := none }
/-- java/lang/Object -/
def k0 : Class := { plain "java/lang/Object" none with
  accessFlags := 33
  interfaces := #[]
  cf := some (fileOf pool0 8 #[] #[{ accessFlags := 1, nameIndex := 5, descriptorIndex := 6, attributes := #[] }] 33 0 #[] #[])
  fields := #[]
  methods := #[k0m0]
  instanceTypes := #[]
  staticTypes := #[]
  resolved := Array.replicate 124 none
  statics := none }

def pool1 : Array CpInfo := pool [(2, .class_ 4), (1, u "java/lang/Object"), (0, u "<init>"), (0, u "()V"), (0, .methodref 8 9), (0, .class_ 10), (0, .nameAndType 11 12), (0, u "com/example/pandect/pandect/text/TokenReader"), (0, u "isWordStart"), (0, u "(I)Z"), (0, .methodref 14 15), (0, .class_ 16), (0, .nameAndType 17 12), (0, u "com/example/pandect/pandect/text/TokenReaderIsWordStartPinLaw"), (0, u "reference"), (3, u "law"), (0, u "(II)Z")] 2

def k1m0 : Method := { name := "<init>", desc := "()V", sig := { parameters := [], returnType := none }, accessFlags := 2, code := none }
def k1c1 : Code := { maxStack := 2, maxLocals := 3, code := method_2_code, exceptionTable := #[], attributes := #[] }
def k1m1 : Method := { name := "reference", desc := "(I)Z", sig := { parameters := [.int], returnType := some .boolean }, accessFlags := 10, code := some k1c1 }
def k1c2 : Code := { maxStack := 3, maxLocals := 5, code := code, exceptionTable := #[], attributes := #[] }
def k1m2 : Method := { name := "law", desc := "(II)Z", sig := { parameters := [.int, .int], returnType := some .boolean }, accessFlags := 9, code := some k1c2 }
/-- com/example/pandect/pandect/text/TokenReaderIsWordStartPinLaw -/
def k1 : Class := { plain "com/example/pandect/pandect/text/TokenReaderIsWordStartPinLaw" (some 0) with
  accessFlags := 49
  interfaces := #[]
  cf := some (fileOf pool1 14 #[] #[{ accessFlags := 2, nameIndex := 5, descriptorIndex := 6, attributes := #[] }, { accessFlags := 10, nameIndex := 17, descriptorIndex := 12, attributes := #[] }, { accessFlags := 9, nameIndex := 21, descriptorIndex := 22, attributes := #[] }] 49 2 #[] #[])
  fields := #[]
  methods := #[k1m0, k1m1, k1m2]
  instanceTypes := #[]
  staticTypes := #[]
  resolved := Array.replicate 25 none
  statics := none }

def pool2 : Array CpInfo := pool [(2, .class_ 4), (1, u "java/lang/Object"), (3, .class_ 10), (1, u "com/example/pandect/pandect/text/TokenReader"), (1, u "Lcom/example/pandect/pandect/text/TextSource;"), (3, u "Ljava/lang/String;"), (3, u "Z"), (33, u "Lcom/example/pandect/pandect/text/AsciiSet;"), (67, u "(I)Z"), (105, u "isWordStart"), (14, u "I")] 74

def k2c0 : Code := { maxStack := 2, maxLocals := 1, code := prog_142_method_10_code, exceptionTable := #[], attributes := #[] }
def k2m0 : Method := { name := "isWordStart", desc := "(I)Z", sig := { parameters := [.int], returnType := some .boolean }, accessFlags := 9, code := some k2c0 }
/-- com/example/pandect/pandect/text/TokenReader -/
def k2 : Class := { plain "com/example/pandect/pandect/text/TokenReader" (some 0) with
  accessFlags := 49
  interfaces := #[]
  cf := some (fileOf pool2 8 #[] #[{ accessFlags := 9, nameIndex := 228, descriptorIndex := 122, attributes := #[] }] 49 2 #[] #[])
  fields := #[]
  methods := #[k2m0]
  instanceTypes := #[]
  staticTypes := #[]
  resolved := Array.replicate 318 none
  statics := none }

def pool3 : Array CpInfo := pool [(1, u "java/lang/Cloneable"), (0, .class_ 1), (0, u "java/lang/Object"), (0, .class_ 3)] 3

/-- java/lang/Cloneable -/
def k3 : Class := { plain "java/lang/Cloneable" (some 0) with
  accessFlags := 1537
  interfaces := #[]
  cf := some (fileOf pool3 2 #[] #[] 1537 4 #[] #[])
  fields := #[]
  methods := #[]
  instanceTypes := #[]
  staticTypes := #[]
  resolved := Array.replicate 8 none
  statics := none }

def pool4 : Array CpInfo := pool [(1, u "java/io/Serializable"), (0, .class_ 1), (0, u "java/lang/Object"), (0, .class_ 3)] 3

/-- java/io/Serializable -/
def k4 : Class := { plain "java/io/Serializable" (some 0) with
  accessFlags := 1537
  interfaces := #[]
  cf := some (fileOf pool4 2 #[] #[] 1537 4 #[] #[])
  fields := #[]
  methods := #[]
  instanceTypes := #[]
  staticTypes := #[]
  resolved := Array.replicate 8 none
  statics := none }

/-- the primitive byte -/
def k5 : Class := { plain "byte" none with kind := .primitive 'B', accessFlags := 0x411 }
/-- [B -/
def k6 : Class := { plain "[B" (some 0) with kind := .array 5 .byte, interfaces := #[3, 4], accessFlags := 1041 }

/-- the primitive int -/
def k7 : Class := { plain "int" none with kind := .primitive 'I', accessFlags := 0x411 }
/-- [I -/
def k8 : Class := { plain "[I" (some 0) with kind := .array 7 .int, interfaces := #[3, 4], accessFlags := 1041 }

def heap : Heap := #[]
def classes : Array Class := #[k0, k1, k2, k3, k4, k5, k6, k7, k8]
def interned : List (Array UInt16 × Addr) := []
def slotsUsed : Nat := 0
def theMethod : MethodId := ⟨1, 2⟩
def args0 : Array Value := #[.int 5, .int 300]
def aboutOver (below : List Frame) : State where
  vm := { classes := classes, interned := interned.toArray }
  heap := heap
  slotsUsed := slotsUsed
  threads := #[{ frames := .invoking theMethod args0 :: below }]
def below0 : List Frame := [.native { method := ⟨0, 0⟩, args := #[] }]
def about1 : State := aboutOver below0
def p0 : Program := .bare "" "" ""
def e0 : Env := launch0.env 0 0 0
theorem w_frames : about1.frames = Frame.invoking theMethod args0 :: below0 := rfl
set_option maxRecDepth 65536 in
theorem w_args : argsFit about1.vm theMethod args0 = true := by decide +kernel
set_option maxRecDepth 65536 in
theorem w_heap : heapFits about1 = true := by decide +kernel
set_option maxRecDepth 65536 in
theorem w_runnable : about1.curStatus? = some .runnable := by decide +kernel
set_option maxRecDepth 65536 in
theorem w_alone : about1.alone = true := by decide +kernel
set_option maxRecDepth 65536 in
theorem w_named : about1.methodNamed? x = some theMethod := by decide +kernel
set_option maxRecDepth 65536 in
theorem w_hears : about1.hears theMethod below0 = true := by decide +kernel
set_option maxRecDepth 65536 in
theorem w_ripe : about1.ripe theMethod args0 below0 = true := by decide +kernel
theorem w_running : about1.status = .running := rfl
set_option maxRecDepth 65536 in
theorem w_room : about1.hasRoom e0.platform room_1 = true :=
  launch0.hasRoom_least _ room_1 (by decide +kernel) (by decide +kernel) (by decide +kernel) (by decide +kernel) (by decide +kernel) (by decide +kernel)
theorem allAtoms_all (ts : List Jvm.Cond) (a : Array Jvm.Value) (st : Jvm.State) : (allAtoms ts).before a st = ts.all (fun c => c.before a st) := by
  induction ts with
  | nil => rfl
  | cons c t ih =>
    show (Jvm.Cond.and c (allAtoms t)).before a st = _
    rw [Jvm.Cond.before_and, ih, List.all_cons]
def words1 : List Jvm.Cond := Jvm.Cond.code x code maxLocals ret :: tables_1
/-- a 'code' word, met by the world's own term for the bytes: nothing is compared byte by byte -/
theorem code_word {y : MethodName} {bytes : ByteArray} {mx : Nat} {rt : Option FieldType} {a : Array Value} {s : State} {m : MethodId} {meth : Method} {c : Code} (h1 : s.methodNamed? y = some m) (h2 : s.vm.method? m = some meth) (h3 : meth.code = some c) (h4 : c.code = bytes)
    (h5 : (c.maxLocals == mx && c.exceptionTable.isEmpty && decide (c.maxStack ≤ mostOperands) && decide (meth.sig.returnType = rt) && !meth.locks && decide (parseMethodDescriptor y.desc = some meth.sig)) = true) : (Jvm.Cond.code y bytes mx rt).before a s = true := by
  simp only [Bool.and_eq_true, beq_iff_eq, Bool.not_eq_true', decide_eq_true_eq] at h5
  obtain ⟨⟨⟨⟨⟨g1, g2⟩, g3⟩, g4⟩, g5⟩, g6⟩ := h5
  simp [Cond.before, Cond.holds, Cond.value, h1, h2, h3, h4, g1, g2, g3, g4, g5, g6]
def isCode : Jvm.Cond → Bool
  | .code _ _ _ _ => true
  | _ => false
theorem all_split {L : List Jvm.Cond} {P : Jvm.Cond → Bool} (h1 : L.all (fun c => isCode c || P c) = true) (h2 : ∀ c ∈ L.filter isCode, P c = true) : L.all P = true := by
  refine List.all_eq_true.mpr fun c hc => ?_
  have h := List.all_eq_true.mp h1 c hc
  rcases Bool.eq_false_or_eq_true (isCode c) with hi | hi
  · exact h2 c (List.mem_filter.mpr ⟨hc, hi⟩)
  · simpa [hi] using h
set_option maxRecDepth 65536 in
theorem w_c0 : (Jvm.Cond.code x code maxLocals ret).before args0 about1 = true := code_word (m := ⟨1, 2⟩) (meth := k1m2) (c := k1c2) (by decide +kernel) rfl rfl rfl (by decide +kernel)
set_option maxRecDepth 65536 in
theorem w_c1 : (Jvm.Cond.code ({ cls := "com/example/pandect/pandect/text/TokenReader", name := "isWordStart", desc := "(I)Z" } : Jvm.MethodName) prog_142_method_10_code (1 : Nat) (Option.some Jvm.ClassFile.FieldType.boolean)).before args0 about1 = true := code_word (m := ⟨2, 0⟩) (meth := k2m0) (c := k2c0) (by decide +kernel) rfl rfl rfl (by decide +kernel)
set_option maxRecDepth 65536 in
theorem w_c2 : (Jvm.Cond.code ({ cls := "com/example/pandect/pandect/text/TokenReaderIsWordStartPinLaw", name := "reference", desc := "(I)Z" } : Jvm.MethodName) method_2_code (3 : Nat) (Option.some Jvm.ClassFile.FieldType.boolean)).before args0 about1 = true := code_word (m := ⟨1, 1⟩) (meth := k1m1) (c := k1c1) (by decide +kernel) rfl rfl rfl (by decide +kernel)
def codes1 : List Jvm.Cond := [Jvm.Cond.code x code maxLocals ret, Jvm.Cond.code ({ cls := "com/example/pandect/pandect/text/TokenReader", name := "isWordStart", desc := "(I)Z" } : Jvm.MethodName) prog_142_method_10_code (1 : Nat) (Option.some Jvm.ClassFile.FieldType.boolean), Jvm.Cond.code ({ cls := "com/example/pandect/pandect/text/TokenReaderIsWordStartPinLaw", name := "reference", desc := "(I)Z" } : Jvm.MethodName) method_2_code (3 : Nat) (Option.some Jvm.ClassFile.FieldType.boolean)]
set_option maxRecDepth 65536 in
theorem codes_eq : words1.filter isCode = codes1 := rfl
theorem w_codes : ∀ c ∈ words1.filter isCode, c.before args0 about1 = true := by
  rw [codes_eq]
  intro c hc
  simp only [codes1, List.mem_cons, List.not_mem_nil, or_false] at hc
  rcases hc with rfl | rfl | rfl
  · exact w_c0
  · exact w_c1
  · exact w_c2
set_option maxRecDepth 65536 in
theorem w_t1 : words1.all (fun c => isCode c || c.before args0 about1) = true := by decide +kernel
theorem w_tables : (allAtoms (Jvm.Cond.code x code maxLocals ret :: tables_1)).before args0 about1 = true := by
  rw [allAtoms_all]
  show words1.all (fun c => c.before args0 about1) = true
  refine all_split ?_ w_codes
  rw [w_t1]
set_option maxRecDepth 65536 in
theorem w_case : (Jvm.Cond.and given_1 narrow_1).before args0 about1 = true := by decide +kernel
theorem w_applies : (headSpec (Jvm.Cond.code x code maxLocals ret :: tables_1) room_1).applies x e0.platform about1 = true :=
  (Spec.applies_iff w_frames).mpr ⟨w_running, w_runnable, w_alone, w_named, w_hears, w_ripe, w_room, w_tables⟩
theorem atStart : AtStart classFile x code maxLocals ret World_1 tables_1 room_1 Calls_1 rest_1 Pre_1 launch0 p0 e0 about1 theMethod args0 below0 :=
  ⟨lists_1, trivial, launch0.admits_env _ _ _, launch0.least_env, fairChoices_fair.cas, fairChoices_fair.clock, w_frames, w_args, w_heap, w_applies, trivial, trivial, w_case⟩
end start1
theorem witness_1 : WitnessClaimed_1 := ⟨start1.p0, start1.e0, start1.about1, start1.theMethod, start1.args0, start1.below0, start1.atStart⟩
end Jvm.Pilot.@@N@@
