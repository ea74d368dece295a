import JvmDerived
import JvmDerived.Pilot.@@N@@Statement
import JvmDerived.Pilot.@@N@@Code
set_option linter.unusedVariables false
set_option linter.unusedSimpArgs false
namespace Jvm.RoadKit
open Sem ClassFile Op Lib Jvm.Stand Jvm.Free Jvm.LawKit
section New
variable {p : Program} {l : Launch} {e : Env} {R : Room} {s : State} {m : MethodId} {args : Array Value} {below : List Frame} {meth : Method} {c : Code} {T : State} {locs : List Loc} {cells slots : Nat}
theorem retI (X : Stand p l e R s m args below meth c T locs cells slots) (hx : p.tables.exec = Jvm.exec) {pc : Nat} {Ls : Array Slot} {z : Int32} {rest : List Value} (hret : meth.sig.returnType = some .int) (hd : decode c.code pc = .ok (.ireturn, 1)) {fs : List Frame}
    (hl : ∀ (f : JFrame) (acts : List Action), f.method = m → f.locked = none → f.entered = [] → (doReturn e (T.setTop f) acts (some (.int z))).1 = T.setFrames fs) : Steps p.tables e below (T.setTop (mkF m pc Ls (.int z :: rest))) (T.setFrames fs) := by
  have hm' : T.vm.method? m = some meth := X.method'
  have hn : narrow .int (.int z) = .int z := rfl
  show Steps p.tables e below (T.setTop { method := m, pc := pc, locals := Ls, stack := _ :: rest, locked := none }) _
  jvm_step X.here [X.here.top, hx, hd, hm', hret, hn]
  first | (intro acts; rw [hl _ acts rfl rfl rfl]) | rw [hl _ _ rfl rfl rfl]
  exact Steps.refl _
end New
end Jvm.RoadKit
namespace Jvm.Pilot.@@N@@
open Jvm Jvm.ClassFile Sem Op Lib Jvm.Free Jvm.Stand Jvm.LawKit Jvm.RoadKit Bundle Jvm.Pilot.@@N@@.Jvm.D
/-! my own layer: all goals of a walk have one shape -/
section Own
variable {p : Program} {l : Launch} {e : Env} {R : Room} {s : State} {m : MethodId} {args : Array Value} {below : List Frame} {meth : Method} {c : Code} {T : State} {locs : List Loc} {cells slots : Nat} {Q : Option Value → Heap → List Loc → Prop} {nc ns : Nat} {A B : State}
/-- from A the method comes to its end, with Q of what it returns, of the heap and of the places written -/
def own_Go (p : Program) (e : Env) (below : List Frame) (s : State) (Q : Option Value → Heap → List Loc → Prop) (nc ns : Nat) (A : State) : Prop :=
  ∃ s₂ o, Steps p.tables e below A s₂ ∧ s₂.status = .running ∧ Ended s₂ below o ∧ ∃ v L, o = .returned v ∧ Q v s₂.heap L ∧ FrameEnd s o s₂ L nc ns
theorem own_go (k : ∀ t, Steps p.tables e below B t → Steps p.tables e below A t) (h : own_Go p e below s Q nc ns B) : own_Go p e below s Q nc ns A := by
  obtain ⟨t, o, h1, h2⟩ := h
  exact ⟨t, o, k t h1, h2⟩
theorem own_end (X : Stand p l e R s m args below meth c T locs cells slots) {v : Option Value} (hv : meth.sig.returnType = none → v = none) (hlk : meth.locks = false) (hq : Q v T.heap locs) (hc : cells ≤ nc) (hs : slots ≤ ns)
    (hst : ∀ fs, (∀ (f : JFrame) (acts : List Action), f.method = m → f.locked = none → f.entered = [] → (doReturn e (T.setTop f) acts v).1 = T.setFrames fs) → Steps p.tables e below A (T.setFrames fs)) : own_Go p e below s Q nc ns A := by
  obtain ⟨fs, hr, hrun, hended, hW, hsame⟩ := X.leave (v := v) hv hlk
  exact ⟨_, _, hst fs hr, hrun, hended, v, locs, rfl, hq, ⟨_, rfl⟩, hW, hsame.mono hc hs⟩
theorem own_wide {cells' slots' : Nat} (X : Stand p l e R s m args below meth c T locs cells slots) (hc : cells ≤ cells') (hs : slots ≤ slots') : Stand p l e R s m args below meth c T locs cells' slots' :=
  { X with same := X.same.mono hc hs }
theorem own_lrem {tb : Tables} [Ours tb] {target : State} {g : JFrame} (h : At T m c below) (hx : tb.exec = Jvm.exec) (hg : g.method = m) {x y : Int64} {rest : List Value} (hd : decode c.code g.pc = .ok (.lrem, 1)) (hs : g.stack = .long y :: .long x :: rest) (hy : y ≠ 0)
    (hr : Steps tb e below (T.setTop { g with pc := g.pc + 1, stack := .long (x % y) :: rest }) target) : Steps tb e below (T.setTop g) target :=
  XS.lrem h hx hg hd hs hy (by rw [lrem_mod]; exact hr)
end Own
section Own2
variable {Z s : State} {a0 args : Array Value} {h : Heap} {a b : Addr} {C : String} {c : Cell} {ty : FieldType}
theorem own_selP {y : MethodName} {n : Nat} (hZ : Z.Warmed39 s.vm) (wi : (Jvm.Cond.instantiable y.cls n).before a0 Z = true) (w2 : (Jvm.Cond.instanceMethod y).before a0 Z = true) (w3 : (Jvm.Cond.privateMethod y).before a0 Z = true)
    (hy : y.cls ≠ "java/lang/invoke/MethodHandle" ∧ y.cls ≠ "java/lang/invoke/VarHandle" := by decide) : (Jvm.Cond.selects y.cls y y).before args s = true := by
  have wi' : (Jvm.Cond.instantiable y.cls n).before args s = true := mvT hZ wi
  obtain ⟨c, k, h1, h2, -, h4, -⟩ := Cond.instantiable_spec wi'
  have h5 : k.isInterface = false := by
    cases hk : k.isInterface
    · rfl
    · rw [hk] at h4; simp at h4
  exact selects_self_of_private h1 h2 h5 (Cond.privateMethod_at (mvP hZ w3 (args := #[]))) (mvT hZ w2) hy
theorem own_neA {n : Nat} (F : Exa Z h a C) (wi : (Jvm.Cond.instantiable C n).before a0 Z = true) (G : ∃ c, Arr Z h b c ty) : a ≠ b := by
  obtain ⟨c, G⟩ := G
  exact ne_arr F wi G
end Own2
def own_max (p1 : Int64) (p2 : Int64) : Int64 := if p1 < p2 then p2 else p1
def Q_rm1 (Z : State) (p1 : Int64) (p2 : Int64) (h0 : Heap) (n0 : Nat) (v : Option Value) (h : Heap) (L : List Loc) : Prop := v = some (.long (own_max p1 p2)) ∧ Fr n0 L ∧ h = h0
theorem d1_0 : decode jdk_29_method_66_code 0 = .ok (.lload_n 0, 1) := by decide +kernel
theorem d1_1 : decode jdk_29_method_66_code 1 = .ok (.lload_n 2, 1) := by decide +kernel
theorem d1_2 : decode jdk_29_method_66_code 2 = .ok (.lcmp, 1) := by decide +kernel
theorem d1_3 : decode jdk_29_method_66_code 3 = .ok (.ifCond .lt 7, 3) := by decide +kernel
theorem d1_6 : decode jdk_29_method_66_code 6 = .ok (.lload_n 0, 1) := by decide +kernel
theorem d1_7 : decode jdk_29_method_66_code 7 = .ok (.goto 4, 3) := by decide +kernel
theorem d1_10 : decode jdk_29_method_66_code 10 = .ok (.lload_n 2, 1) := by decide +kernel
theorem d1_11 : decode jdk_29_method_66_code 11 = .ok (.lreturn, 1) := by decide +kernel
set_option maxRecDepth 65536 in
set_option maxHeartbeats 40000000 in
theorem rm1 (l : Launch) (Z : State) (a0 : Array Value) (hw : ∀ d ∈ tables_1, d.before a0 Z = true) (ws : List Jvm.Cond) (p1 : Int64) (p2 : Int64) (h0 : Heap) (n0 : Nat) (Z0 : n0 ≤ h0.size)  :
    MetFree l (⟨"java/lang/Math", "max", "(JJ)J"⟩ : MethodName) (head1 (Jvm.Cond.code (⟨"java/lang/Math", "max", "(JJ)J"⟩ : MethodName) jdk_29_method_66_code 4 (some .long) :: ws) ({ frames := 0, cells := 0, slots := 0, locals := 0 } : Room)) (fun aa U => aa = #[(.long p1), (.long p2)] ∧ Z.Warmed39 U.vm ∧ U.heap = h0) (fun _ _ _ _ _ => True) (fun _ U o U' => ∃ v L, o = .returned v ∧ Q_rm1 Z p1 p2 h0 n0 v U'.heap L ∧ FrameEnd U o U' L ({ frames := 0, cells := 0, slots := 0, locals := 0 } : Room).cells ({ frames := 0, cells := 0, slots := 0, locals := 0 } : Room).slots) := by
  refine MetFree.of_bodySF (Jvm.Free.JP.mathPlain rfl (by decide +kernel)) hisR ?_
  intro p e s m args below meth c s₁ Bd hml0 hP hK
  obtain ⟨rfl, hZ, hh⟩ := hP
  have hx := Bd.exec
  have hby := Bd.bytes
  have hml : c.maxLocals = 4 := hml0
  have hlk : meth.locks = false := BodyLoose.notSynchronized Bd
  have hown : s.vm.findClass "java/lang/Math" = some m.cls := findClass_of_methodNamed Bd.named
  have hnm := (name_of_methodNamed Bd.named Bd.method).1
  have X0 : Stand p l e ({ frames := 0, cells := 0, slots := 0, locals := 0 } : Room) s m #[(.long p1), (.long p2)] below meth c s₁ [] 0 0 := Stand.of_body Bd
  have e0 : s₁.heap = h0 := by rw [← hh, Bd.state]; rfl
  have N0 := Fr.nil n0
  show own_Go p e below s (Q_rm1 Z p1 p2 h0 n0) 0 0 (s₁.setTop (entryFrame m #[(.long p1), (.long p2)] 4))
  refine own_go (B := s₁.setTop (mkF m 0 #[.val (.long p1), .second, .val (.long p2), .second] [])) (fun tgt cont => (XT.entry rfl).trans cont) ?_
  refine own_go (B := s₁.setTop (mkF m 3 #[.val (.long p1), .second, .val (.long p2), .second] [(.int (XT.cmpL p1 p2))])) (fun tgt cont => ?_) ?_
  · refine XS.lloadN X0.here hx rfl (hb hby d1_0) rfl ?_
    refine XS.lloadN X0.here hx rfl (hb hby d1_1) rfl ?_
    refine XT.lcmp X0.here hx rfl (hb hby d1_2) rfl ?_
    exact cont
  by_cases hc1 : p1 < p2
  ·
    refine own_go (B := s₁.setTop (mkF m 11 #[.val (.long p1), .second, .val (.long p2), .second] [(.long p2)])) (fun tgt cont => ?_) ?_
    · refine XS.ifYes X0.here hx rfl (pc0 := 3) (pc' := 10) rfl (hb hby d1_3) rfl (XT.ll_lt_t hc1) (by decide) (by decide) ?_
      refine XS.lloadN X0.here hx rfl (hb hby d1_10) rfl ?_
      exact cont
    refine own_end X0 (v := some (.long p2)) (fun h => by rw [Bd.returns] at h; cases h) hlk ?_ (by decide) (by decide) (fun fs hl => retOut X0 hx Bd.returns rfl (Or.inr (Or.inl ⟨rfl, rfl, _, rfl⟩)) (hb hby d1_11) hl)
    exact ⟨(by unfold own_max; first | exact rfl | (simp only [if_pos hc1]; first | done | exact rfl)), N0, e0⟩
  ·
    refine own_go (B := s₁.setTop (mkF m 11 #[.val (.long p1), .second, .val (.long p2), .second] [(.long p1)])) (fun tgt cont => ?_) ?_
    · refine XS.ifNo X0.here hx rfl (hb hby d1_3) rfl (XT.ll_lt_f hc1) ?_
      refine XS.lloadN X0.here hx rfl (hb hby d1_6) rfl ?_
      refine XS.goto X0.here hx rfl (pc0 := 7) (pc' := 11) rfl (hb hby d1_7) (by decide) (by decide) ?_
      exact cont
    refine own_end X0 (v := some (.long p1)) (fun h => by rw [Bd.returns] at h; cases h) hlk ?_ (by decide) (by decide) (fun fs hl => retOut X0 hx Bd.returns rfl (Or.inr (Or.inl ⟨rfl, rfl, _, rfl⟩)) (hb hby d1_11) hl)
    exact ⟨(by unfold own_max; first | exact rfl | (simp only [if_neg hc1]; first | done | exact rfl)), N0, e0⟩
def own_maxI (p1 : Int32) (p2 : Int32) : Int32 := if p1 < p2 then p2 else p1
def Q_rm2 (Z : State) (p1 : Int32) (p2 : Int32) (h0 : Heap) (n0 : Nat) (v : Option Value) (h : Heap) (L : List Loc) : Prop := v = some (.int (own_maxI p1 p2)) ∧ Fr n0 L ∧ h = h0
theorem d2_0 : decode jdk_29_method_65_code 0 = .ok (.iload_n 0, 1) := by decide +kernel
theorem d2_1 : decode jdk_29_method_65_code 1 = .ok (.iload_n 1, 1) := by decide +kernel
theorem d2_2 : decode jdk_29_method_65_code 2 = .ok (.if_icmp .lt 7, 3) := by decide +kernel
theorem d2_5 : decode jdk_29_method_65_code 5 = .ok (.iload_n 0, 1) := by decide +kernel
theorem d2_6 : decode jdk_29_method_65_code 6 = .ok (.goto 4, 3) := by decide +kernel
theorem d2_9 : decode jdk_29_method_65_code 9 = .ok (.iload_n 1, 1) := by decide +kernel
theorem d2_10 : decode jdk_29_method_65_code 10 = .ok (.ireturn, 1) := by decide +kernel
set_option maxRecDepth 65536 in
set_option maxHeartbeats 40000000 in
theorem rm2 (l : Launch) (Z : State) (a0 : Array Value) (hw : ∀ d ∈ tables_1, d.before a0 Z = true) (ws : List Jvm.Cond) (p1 : Int32) (p2 : Int32) (h0 : Heap) (n0 : Nat) (Z0 : n0 ≤ h0.size)  :
    MetFree l (⟨"java/lang/Math", "max", "(II)I"⟩ : MethodName) (head1 (Jvm.Cond.code (⟨"java/lang/Math", "max", "(II)I"⟩ : MethodName) jdk_29_method_65_code 2 (some .int) :: ws) ({ frames := 0, cells := 0, slots := 0, locals := 0 } : Room)) (fun aa U => aa = #[(.int p1), (.int p2)] ∧ Z.Warmed39 U.vm ∧ U.heap = h0) (fun _ _ _ _ _ => True) (fun _ U o U' => ∃ v L, o = .returned v ∧ Q_rm2 Z p1 p2 h0 n0 v U'.heap L ∧ FrameEnd U o U' L ({ frames := 0, cells := 0, slots := 0, locals := 0 } : Room).cells ({ frames := 0, cells := 0, slots := 0, locals := 0 } : Room).slots) := by
  refine MetFree.of_bodySF (Jvm.Free.JP.mathPlain rfl (by decide +kernel)) hisR ?_
  intro p e s m args below meth c s₁ Bd hml0 hP hK
  obtain ⟨rfl, hZ, hh⟩ := hP
  have hx := Bd.exec
  have hby := Bd.bytes
  have hml : c.maxLocals = 2 := hml0
  have hlk : meth.locks = false := BodyLoose.notSynchronized Bd
  have hown : s.vm.findClass "java/lang/Math" = some m.cls := findClass_of_methodNamed Bd.named
  have hnm := (name_of_methodNamed Bd.named Bd.method).1
  have X0 : Stand p l e ({ frames := 0, cells := 0, slots := 0, locals := 0 } : Room) s m #[(.int p1), (.int p2)] below meth c s₁ [] 0 0 := Stand.of_body Bd
  have e0 : s₁.heap = h0 := by rw [← hh, Bd.state]; rfl
  have N0 := Fr.nil n0
  show own_Go p e below s (Q_rm2 Z p1 p2 h0 n0) 0 0 (s₁.setTop (entryFrame m #[(.int p1), (.int p2)] 2))
  refine own_go (B := s₁.setTop (mkF m 0 #[.val (.int p1), .val (.int p2)] [])) (fun tgt cont => (XT.entry rfl).trans cont) ?_
  refine own_go (B := s₁.setTop (mkF m 2 #[.val (.int p1), .val (.int p2)] [(.int p2), (.int p1)])) (fun tgt cont => ?_) ?_
  · refine XS.iloadN X0.here hx rfl (hb hby d2_0) rfl ?_
    refine XS.iloadN X0.here hx rfl (hb hby d2_1) rfl ?_
    exact cont
  by_cases hc1 : p1 < p2
  ·
    refine own_go (B := s₁.setTop (mkF m 10 #[.val (.int p1), .val (.int p2)] [(.int p2)])) (fun tgt cont => ?_) ?_
    · refine XS.icmpYes X0.here hx rfl (pc0 := 2) (pc' := 9) rfl (hb hby d2_2) rfl (XT.ii_lt_t hc1) (by decide) (by decide) ?_
      refine XS.iloadN X0.here hx rfl (hb hby d2_9) rfl ?_
      exact cont
    refine own_end X0 (v := some (.int p2)) (fun h => by rw [Bd.returns] at h; cases h) hlk ?_ (by decide) (by decide) (fun fs hl => retI X0 hx Bd.returns (hb hby d2_10) hl)
    exact ⟨(by unfold own_maxI; first | exact rfl | (simp only [if_pos hc1]; first | done | exact rfl)), N0, e0⟩
  ·
    refine own_go (B := s₁.setTop (mkF m 10 #[.val (.int p1), .val (.int p2)] [(.int p1)])) (fun tgt cont => ?_) ?_
    · refine XS.icmpNo X0.here hx rfl (hb hby d2_2) rfl (XT.ii_lt_f hc1) ?_
      refine XS.iloadN X0.here hx rfl (hb hby d2_5) rfl ?_
      refine XS.goto X0.here hx rfl (pc0 := 6) (pc' := 10) rfl (hb hby d2_6) (by decide) (by decide) ?_
      exact cont
    refine own_end X0 (v := some (.int p1)) (fun h => by rw [Bd.returns] at h; cases h) hlk ?_ (by decide) (by decide) (fun fs hl => retI X0 hx Bd.returns (hb hby d2_10) hl)
    exact ⟨(by unfold own_maxI; first | exact rfl | (simp only [if_neg hc1]; first | done | exact rfl)), N0, e0⟩
theorem own_nz {x : Int32} (h : (1 : Int32) < x) : ((x - (1 : Int32)).toInt64) ≠ 0 := by
  intro e
  have e2 := congrArg Int64.toInt e
  rw [Int32.toInt_toInt64] at e2
  have h1 := Int32.lt_iff_toInt_lt.mp h
  have h2 := c_isub x 1
  have e1 : (1 : Int32).toInt = 1 := rfl
  have e0 : (0 : Int64).toInt = 0 := rfl
  have := rng32 x
  omega
def own_init_quarterMs (p1 : Int64) : Int64 := ((p1 / (4 : Int64)))
def own_init_oneTask (p3 : Int32) : Int32 := (nar .boolean ((if p3 = (1 : Int32) then (1 : Int32) else (0 : Int32))))
def own_init_firstCommitMs (p1 : Int64) (p3 : Int32) : Int64 := ((if (nar .boolean ((if p3 = (1 : Int32) then (1 : Int32) else (0 : Int32)))) = 0 then ((p1 / (4 : Int64))) else (0 : Int64)))
def own_init_standInStepMs (p1 : Int64) (p2 : Int32) : Int64 := ((if (1 : Int32) < p2 then ((p1 - ((2 : Int64) * ((p1 / (4 : Int64))))) / ((p2 - (1 : Int32)).toInt64)) else (0 : Int64)))
def Q_rm3 (Z : State) (a : Addr) (p1 : Int64) (p2 : Int32) (p3 : Int32) (u_iv : Int64) (u_q : Int64) (u_c : Int32) (u_o : Int32) (u_f : Int64) (u_s : Int64) (h0 : Heap) (n0 : Nat) (v : Option Value) (h : Heap) (L : List Loc) : Prop := v = none ∧ Fr n0 L ∧ Keep h0 h [a] ∧ Exa Z h a "com/example/keyfold/keyfold/CommitSchedule" ∧ Fld Z h a "com/example/keyfold/keyfold/CommitSchedule" "intervalMs" "J" (.long p1) ∧ Fld Z h a "com/example/keyfold/keyfold/CommitSchedule" "quarterMs" "J" (.long (own_init_quarterMs p1)) ∧ Fld Z h a "com/example/keyfold/keyfold/CommitSchedule" "committers" "I" (.int p2) ∧ Fld Z h a "com/example/keyfold/keyfold/CommitSchedule" "oneTask" "Z" (.int (own_init_oneTask p3)) ∧ Fld Z h a "com/example/keyfold/keyfold/CommitSchedule" "firstCommitMs" "J" (.long (own_init_firstCommitMs p1 p3)) ∧ Fld Z h a "com/example/keyfold/keyfold/CommitSchedule" "standInStepMs" "J" (.long (own_init_standInStepMs p1 p2))
theorem own_pn0 : plainName "com/example/keyfold/keyfold/CommitSchedule" = true := by first | (simp [plainName, overriddenIn]; done) | decide +kernel
theorem d3_0 : decode prog_1_method_1_code 0 = .ok (.aload_n 0, 1) := by decide +kernel
theorem d3_1 : decode prog_1_method_1_code 1 = .ok (.invokespecial 1, 3) := by decide +kernel
theorem d3_4 : decode prog_1_method_1_code 4 = .ok (.aload_n 0, 1) := by decide +kernel
theorem d3_5 : decode prog_1_method_1_code 5 = .ok (.lload_n 1, 1) := by decide +kernel
theorem d3_6 : decode prog_1_method_1_code 6 = .ok (.putfield 7, 3) := by decide +kernel
theorem d3_9 : decode prog_1_method_1_code 9 = .ok (.aload_n 0, 1) := by decide +kernel
theorem d3_10 : decode prog_1_method_1_code 10 = .ok (.lload_n 1, 1) := by decide +kernel
theorem d3_11 : decode prog_1_method_1_code 11 = .ok (.ldc2_w 13, 3) := by decide +kernel
theorem d3_14 : decode prog_1_method_1_code 14 = .ok (.ldiv, 1) := by decide +kernel
theorem d3_15 : decode prog_1_method_1_code 15 = .ok (.putfield 15, 3) := by decide +kernel
theorem d3_18 : decode prog_1_method_1_code 18 = .ok (.aload_n 0, 1) := by decide +kernel
theorem d3_19 : decode prog_1_method_1_code 19 = .ok (.iload_n 3, 1) := by decide +kernel
theorem d3_20 : decode prog_1_method_1_code 20 = .ok (.putfield 18, 3) := by decide +kernel
theorem d3_23 : decode prog_1_method_1_code 23 = .ok (.aload_n 0, 1) := by decide +kernel
theorem d3_24 : decode prog_1_method_1_code 24 = .ok (.iload 4, 2) := by decide +kernel
theorem d3_26 : decode prog_1_method_1_code 26 = .ok (.iconst 1, 1) := by decide +kernel
theorem d3_27 : decode prog_1_method_1_code 27 = .ok (.if_icmp .ne 7, 3) := by decide +kernel
theorem d3_30 : decode prog_1_method_1_code 30 = .ok (.iconst 1, 1) := by decide +kernel
theorem d3_31 : decode prog_1_method_1_code 31 = .ok (.goto 4, 3) := by decide +kernel
theorem d3_34 : decode prog_1_method_1_code 34 = .ok (.iconst 0, 1) := by decide +kernel
theorem d3_35 : decode prog_1_method_1_code 35 = .ok (.putfield 22, 3) := by decide +kernel
theorem d3_38 : decode prog_1_method_1_code 38 = .ok (.aload_n 0, 1) := by decide +kernel
theorem d3_39 : decode prog_1_method_1_code 39 = .ok (.aload_n 0, 1) := by decide +kernel
theorem d3_40 : decode prog_1_method_1_code 40 = .ok (.getfield 22, 3) := by decide +kernel
theorem d3_43 : decode prog_1_method_1_code 43 = .ok (.ifCond .eq 7, 3) := by decide +kernel
theorem d3_46 : decode prog_1_method_1_code 46 = .ok (.lconst 0, 1) := by decide +kernel
theorem d3_47 : decode prog_1_method_1_code 47 = .ok (.goto 7, 3) := by decide +kernel
theorem d3_50 : decode prog_1_method_1_code 50 = .ok (.aload_n 0, 1) := by decide +kernel
theorem d3_51 : decode prog_1_method_1_code 51 = .ok (.getfield 15, 3) := by decide +kernel
theorem d3_54 : decode prog_1_method_1_code 54 = .ok (.putfield 26, 3) := by decide +kernel
theorem d3_57 : decode prog_1_method_1_code 57 = .ok (.aload_n 0, 1) := by decide +kernel
theorem d3_58 : decode prog_1_method_1_code 58 = .ok (.iload_n 3, 1) := by decide +kernel
theorem d3_59 : decode prog_1_method_1_code 59 = .ok (.iconst 1, 1) := by decide +kernel
theorem d3_60 : decode prog_1_method_1_code 60 = .ok (.if_icmp .le 21, 3) := by decide +kernel
theorem d3_63 : decode prog_1_method_1_code 63 = .ok (.lload_n 1, 1) := by decide +kernel
theorem d3_64 : decode prog_1_method_1_code 64 = .ok (.ldc2_w 29, 3) := by decide +kernel
theorem d3_67 : decode prog_1_method_1_code 67 = .ok (.aload_n 0, 1) := by decide +kernel
theorem d3_68 : decode prog_1_method_1_code 68 = .ok (.getfield 15, 3) := by decide +kernel
theorem d3_71 : decode prog_1_method_1_code 71 = .ok (.lmul, 1) := by decide +kernel
theorem d3_72 : decode prog_1_method_1_code 72 = .ok (.lsub, 1) := by decide +kernel
theorem d3_73 : decode prog_1_method_1_code 73 = .ok (.iload_n 3, 1) := by decide +kernel
theorem d3_74 : decode prog_1_method_1_code 74 = .ok (.iconst 1, 1) := by decide +kernel
theorem d3_75 : decode prog_1_method_1_code 75 = .ok (.isub, 1) := by decide +kernel
theorem d3_76 : decode prog_1_method_1_code 76 = .ok (.i2l, 1) := by decide +kernel
theorem d3_77 : decode prog_1_method_1_code 77 = .ok (.ldiv, 1) := by decide +kernel
theorem d3_78 : decode prog_1_method_1_code 78 = .ok (.goto 4, 3) := by decide +kernel
theorem d3_81 : decode prog_1_method_1_code 81 = .ok (.lconst 0, 1) := by decide +kernel
theorem d3_82 : decode prog_1_method_1_code 82 = .ok (.putfield 31, 3) := by decide +kernel
theorem d3_85 : decode prog_1_method_1_code 85 = .ok (.return_, 1) := by decide +kernel
set_option maxRecDepth 65536 in
set_option maxHeartbeats 40000000 in
theorem rm3 (l : Launch) (Z : State) (a0 : Array Value) (hw : ∀ d ∈ tables_1, d.before a0 Z = true) (ws : List Jvm.Cond) (a : Addr) (p1 : Int64) (p2 : Int32) (p3 : Int32) (u_iv : Int64) (u_q : Int64) (u_c : Int32) (u_o : Int32) (u_f : Int64) (u_s : Int64) (h0 : Heap) (n0 : Nat) (Z0 : n0 ≤ h0.size) (E_a : Exa Z h0 a "com/example/keyfold/keyfold/CommitSchedule") (F_a_intervalMs : Fld Z h0 a "com/example/keyfold/keyfold/CommitSchedule" "intervalMs" "J" (.long u_iv)) (F_a_quarterMs : Fld Z h0 a "com/example/keyfold/keyfold/CommitSchedule" "quarterMs" "J" (.long u_q)) (F_a_committers : Fld Z h0 a "com/example/keyfold/keyfold/CommitSchedule" "committers" "I" (.int u_c)) (F_a_oneTask : Fld Z h0 a "com/example/keyfold/keyfold/CommitSchedule" "oneTask" "Z" (.int u_o)) (F_a_firstCommitMs : Fld Z h0 a "com/example/keyfold/keyfold/CommitSchedule" "firstCommitMs" "J" (.long u_f)) (F_a_standInStepMs : Fld Z h0 a "com/example/keyfold/keyfold/CommitSchedule" "standInStepMs" "J" (.long u_s)) (g_a : n0 ≤ a)  :
    MetFree l (⟨"com/example/keyfold/keyfold/CommitSchedule", "<init>", "(JII)V"⟩ : MethodName) (head1 (Jvm.Cond.code (⟨"com/example/keyfold/keyfold/CommitSchedule", "<init>", "(JII)V"⟩ : MethodName) prog_1_method_1_code 5 none :: ws) ({ frames := 1, cells := 0, slots := 0, locals := 12 } : Room)) (fun aa U => aa = #[(.ref a), (.long p1), (.int p2), (.int p3)] ∧ Z.Warmed39 U.vm ∧ U.heap = h0) (fun _ _ _ _ _ => True) (fun _ U o U' => ∃ v L, o = .returned v ∧ Q_rm3 Z a p1 p2 p3 u_iv u_q u_c u_o u_f u_s h0 n0 v U'.heap L ∧ FrameEnd U o U' L ({ frames := 1, cells := 0, slots := 0, locals := 12 } : Room).cells ({ frames := 1, cells := 0, slots := 0, locals := 12 } : Room).slots) := by
  refine MetFree.of_bodySF (plainFor_of_name own_pn0) hisR ?_
  intro p e s m args below meth c s₁ Bd hml0 hP hK
  obtain ⟨rfl, hZ, hh⟩ := hP
  have hx := Bd.exec
  have hby := Bd.bytes
  have hml : c.maxLocals = 5 := hml0
  have hlk : meth.locks = false := BodyLoose.notSynchronized Bd
  have hown : s.vm.findClass "com/example/keyfold/keyfold/CommitSchedule" = some m.cls := findClass_of_methodNamed Bd.named
  have hnm := (name_of_methodNamed Bd.named Bd.method).1
  have X0 : Stand p l e ({ frames := 1, cells := 0, slots := 0, locals := 12 } : Room) s m #[(.ref a), (.long p1), (.int p2), (.int p3)] below meth c s₁ [] 0 0 := Stand.of_body Bd
  have e0 : s₁.heap = h0 := by rw [← hh, Bd.state]; rfl
  have N0 := Fr.nil n0
  show own_Go p e below s (Q_rm3 Z a p1 p2 p3 u_iv u_q u_c u_o u_f u_s h0 n0) 0 0 (s₁.setTop (entryFrame m #[(.ref a), (.long p1), (.int p2), (.int p3)] 5))
  refine own_go (B := s₁.setTop (mkF m 0 #[.val (.ref a), .val (.long p1), .second, .val (.int p2), .val (.int p3)] [])) (fun tgt cont => (XT.entry rfl).trans cont) ?_
  refine own_go (B := s₁.setTop (mkF m 1 #[.val (.ref a), .val (.long p1), .second, .val (.int p2), .val (.int p3)] [(.ref a)])) (fun tgt cont => ?_) ?_
  · refine XS.aloadN X0.here hx rfl (hb hby d3_0) rfl rfl ?_
    exact cont
  obtain ⟨T1, X1, e1, st1⟩ := initO X0 hx hZ hown (hw _ (List.mem_of_getElem? (i := 15) rfl)) (hw _ (List.mem_of_getElem? (i := 16) rfl)) (hw _ (List.mem_of_getElem? (i := 17) rfl)) e0 (g := (mkF m 1 #[.val (.ref a), .val (.long p1), .second, .val (.int p2), .val (.int p3)] [(.ref a)])) rfl (by rw [hml]; rfl) rfl (hb hby d3_1) (by decide) (W := 0) (by show 2 * 0 + _ ≤ _; exact Nat.le_of_eq rfl) (by decide)
  refine own_go (fun tgt cont => st1 tgt cont) ?_
  show own_Go p e below s (Q_rm3 Z a p1 p2 p3 u_iv u_q u_c u_o u_f u_s h0 n0) 0 0 (T1.setTop (mkF m 4 #[.val (.ref a), .val (.long p1), .second, .val (.int p2), .val (.int p3)] []))
  refine own_go (B := T1.setTop (mkF m 6 #[.val (.ref a), .val (.long p1), .second, .val (.int p2), .val (.int p3)] [(.long p1), (.ref a)])) (fun tgt cont => ?_) ?_
  · refine XS.aloadN X1.here hx rfl (hb hby d3_4) rfl rfl ?_
    refine XS.lloadN X1.here hx rfl (hb hby d3_5) rfl ?_
    exact cont
  obtain ⟨T2, h2, X2, e2, W2, st2⟩ := putF X1 hx hZ hown (host := "") (Or.inl (hw _ (List.mem_of_getElem? (i := 18) rfl))) Via.refl e1 F_a_intervalMs E_a (Or.inr ⟨(hw _ (List.mem_of_getElem? (i := 19) rfl)), rfl, hnm⟩) (hw _ (List.mem_of_getElem? (i := 10) rfl)) (ty := .long) (by decide) rfl rfl (g := (mkF m 6 #[.val (.ref a), .val (.long p1), .second, .val (.int p2), .val (.int p3)] [(.long p1), (.ref a)])) rfl rfl (hb hby d3_6)
  have fw2 := F_a_intervalMs.same W2
  have N2 := Fr.snoc X2 N0 g_a
  have kk2 : Keep h0 h2 [a] := (Keep.refl h0 [a]).wr W2 (Or.inl (List.mem_of_getElem? (i := 0) rfl))
  have zp2 : n0 ≤ h2.size := Nat.le_trans Z0 kk2.1
  refine own_go (fun tgt cont => st2 tgt cont) ?_
  show own_Go p e below s (Q_rm3 Z a p1 p2 p3 u_iv u_q u_c u_o u_f u_s h0 n0) 0 0 (T2.setTop (mkF m 9 #[.val (.ref a), .val (.long p1), .second, .val (.int p2), .val (.int p3)] []))
  refine own_go (B := T2.setTop (mkF m 15 #[.val (.ref a), .val (.long p1), .second, .val (.int p2), .val (.int p3)] [(.long (p1 / (4 : Int64))), (.ref a)])) (fun tgt cont => ?_) ?_
  · refine XS.aloadN X2.here hx rfl (hb hby d3_9) rfl rfl ?_
    refine XS.lloadN X2.here hx rfl (hb hby d3_10) rfl ?_
    refine Stand.ldc2J X2 hx hown (mvT hZ (hw _ (List.mem_of_getElem? (i := 20) rfl))) rfl (hb hby d3_11) ?_
    refine XS.ldiv X2.here hx rfl (hb hby d3_14) rfl (by decide) ?_
    exact cont
  generalize hv3 : (p1 / (4 : Int64)) = v3
  have f5 := (F_a_quarterMs.other W2 (Or.inr (slot_ne (t := .long) (t' := .long) (Or.inr (hw _ (List.mem_of_getElem? (i := 22) rfl))) (Or.inr (hw _ (List.mem_of_getElem? (i := 19) rfl))) (by decide) (by decide) (by decide))))
  have f6 := (E_a.wr W2)
  obtain ⟨T4, h4, X4, e4, W4, st4⟩ := putF X2 hx hZ hown (host := "") (Or.inl (hw _ (List.mem_of_getElem? (i := 21) rfl))) Via.refl e2 f5 f6 (Or.inr ⟨(hw _ (List.mem_of_getElem? (i := 22) rfl)), rfl, hnm⟩) (hw _ (List.mem_of_getElem? (i := 10) rfl)) (ty := .long) (by decide) rfl rfl (g := (mkF m 15 #[.val (.ref a), .val (.long p1), .second, .val (.int p2), .val (.int p3)] [(.long v3), (.ref a)])) rfl rfl (hb hby d3_15)
  have fw4 := f5.same W4
  have N4 := Fr.snoc X4 N2 g_a
  have kk4 : Keep h0 h4 [a] := kk2.wr W4 (Or.inl (List.mem_of_getElem? (i := 0) rfl))
  have zp4 : n0 ≤ h4.size := Nat.le_trans Z0 kk4.1
  refine own_go (fun tgt cont => st4 tgt cont) ?_
  show own_Go p e below s (Q_rm3 Z a p1 p2 p3 u_iv u_q u_c u_o u_f u_s h0 n0) 0 0 (T4.setTop (mkF m 18 #[.val (.ref a), .val (.long p1), .second, .val (.int p2), .val (.int p3)] []))
  refine own_go (B := T4.setTop (mkF m 20 #[.val (.ref a), .val (.long p1), .second, .val (.int p2), .val (.int p3)] [(.int p2), (.ref a)])) (fun tgt cont => ?_) ?_
  · refine XS.aloadN X4.here hx rfl (hb hby d3_18) rfl rfl ?_
    refine XS.iloadN X4.here hx rfl (hb hby d3_19) rfl ?_
    exact cont
  have f8 := ((F_a_committers.other W2 (Or.inr (slot_ne (t := .int) (t' := .long) (Or.inr (hw _ (List.mem_of_getElem? (i := 24) rfl))) (Or.inr (hw _ (List.mem_of_getElem? (i := 19) rfl))) (by decide) (by decide) (by decide)))).other W4 (Or.inr (slot_ne (t := .int) (t' := .long) (Or.inr (hw _ (List.mem_of_getElem? (i := 24) rfl))) (Or.inr (hw _ (List.mem_of_getElem? (i := 22) rfl))) (by decide) (by decide) (by decide))))
  have f9 := (f6.wr W4)
  obtain ⟨T7, h7, X7, e7, W7, st7⟩ := putF X4 hx hZ hown (host := "") (Or.inl (hw _ (List.mem_of_getElem? (i := 23) rfl))) Via.refl e4 f8 f9 (Or.inr ⟨(hw _ (List.mem_of_getElem? (i := 24) rfl)), rfl, hnm⟩) (hw _ (List.mem_of_getElem? (i := 10) rfl)) (ty := .int) (by decide) rfl rfl (g := (mkF m 20 #[.val (.ref a), .val (.long p1), .second, .val (.int p2), .val (.int p3)] [(.int p2), (.ref a)])) rfl rfl (hb hby d3_20)
  have fw7 := f8.same W7
  have N7 := Fr.snoc X7 N4 g_a
  have kk7 : Keep h0 h7 [a] := kk4.wr W7 (Or.inl (List.mem_of_getElem? (i := 0) rfl))
  have zp7 : n0 ≤ h7.size := Nat.le_trans Z0 kk7.1
  refine own_go (fun tgt cont => st7 tgt cont) ?_
  show own_Go p e below s (Q_rm3 Z a p1 p2 p3 u_iv u_q u_c u_o u_f u_s h0 n0) 0 0 (T7.setTop (mkF m 23 #[.val (.ref a), .val (.long p1), .second, .val (.int p2), .val (.int p3)] []))
  refine own_go (B := T7.setTop (mkF m 27 #[.val (.ref a), .val (.long p1), .second, .val (.int p2), .val (.int p3)] [(.int (1 : Int32)), (.int p3), (.ref a)])) (fun tgt cont => ?_) ?_
  · refine XS.aloadN X7.here hx rfl (hb hby d3_23) rfl rfl ?_
    refine XS.iload X7.here hx rfl (hb hby d3_24) rfl ?_
    refine XT.iconstV X7.here hx rfl (1 : Int32) (hb hby d3_26) rfl ?_
    exact cont
  have K10 : ∀ (v11 : Int32) (hv11 : v11 = (if p3 = (1 : Int32) then (1 : Int32) else (0 : Int32))), own_Go p e below s (Q_rm3 Z a p1 p2 p3 u_iv u_q u_c u_o u_f u_s h0 n0) 0 0 (T7.setTop (mkF m 35 #[.val (.ref a), .val (.long p1), .second, .val (.int p2), .val (.int p3)] [(.int v11), (.ref a)])) := by
    intro v11 hv11
    have f13 := (((F_a_oneTask.other W2 (Or.inr (slot_ne (t := .boolean) (t' := .long) (Or.inr (hw _ (List.mem_of_getElem? (i := 26) rfl))) (Or.inr (hw _ (List.mem_of_getElem? (i := 19) rfl))) (by decide) (by decide) (by decide)))).other W4 (Or.inr (slot_ne (t := .boolean) (t' := .long) (Or.inr (hw _ (List.mem_of_getElem? (i := 26) rfl))) (Or.inr (hw _ (List.mem_of_getElem? (i := 22) rfl))) (by decide) (by decide) (by decide)))).other W7 (Or.inr (slot_ne (t := .boolean) (t' := .int) (Or.inr (hw _ (List.mem_of_getElem? (i := 26) rfl))) (Or.inr (hw _ (List.mem_of_getElem? (i := 24) rfl))) (by decide) (by decide) (by decide))))
    have f14 := (f9.wr W7)
    obtain ⟨T12, h12, X12, e12, W12, st12⟩ := putFN X7 hx hZ hown (hw _ (List.mem_of_getElem? (i := 25) rfl)) Via.refl e7 f13 f14 (Or.inr ⟨(hw _ (List.mem_of_getElem? (i := 26) rfl)), rfl, hnm⟩) (hw _ (List.mem_of_getElem? (i := 10) rfl)) (ty := .boolean) (v' := (.int (nar .boolean v11))) (by decide) rfl (fits_nar_bool _) (g := (mkF m 35 #[.val (.ref a), .val (.long p1), .second, .val (.int p2), .val (.int p3)] [(.int v11), (.ref a)])) rfl rfl (hb hby d3_35)
    have fw12 := f13.same W12
    have N12 := Fr.snoc X12 N7 g_a
    have kk12 : Keep h0 h12 [a] := kk7.wr W12 (Or.inl (List.mem_of_getElem? (i := 0) rfl))
    have zp12 : n0 ≤ h12.size := Nat.le_trans Z0 kk12.1
    refine own_go (fun tgt cont => st12 tgt cont) ?_
    show own_Go p e below s (Q_rm3 Z a p1 p2 p3 u_iv u_q u_c u_o u_f u_s h0 n0) 0 0 (T12.setTop (mkF m 38 #[.val (.ref a), .val (.long p1), .second, .val (.int p2), .val (.int p3)] []))
    refine own_go (B := T12.setTop (mkF m 40 #[.val (.ref a), .val (.long p1), .second, .val (.int p2), .val (.int p3)] [(.ref a), (.ref a)])) (fun tgt cont => ?_) ?_
    · refine XS.aloadN X12.here hx rfl (hb hby d3_38) rfl rfl ?_
      refine XS.aloadN X12.here hx rfl (hb hby d3_39) rfl rfl ?_
      exact cont
    obtain ⟨T15, X15, e15, st15⟩ := getF X12 hx hZ hown (host := "") (Or.inl (hw _ (List.mem_of_getElem? (i := 25) rfl))) Via.refl e12 fw12 (g := (mkF m 40 #[.val (.ref a), .val (.long p1), .second, .val (.int p2), .val (.int p3)] [(.ref a), (.ref a)])) rfl rfl (hb hby d3_40)
    refine own_go (fun tgt cont => st15 tgt cont) ?_
    show own_Go p e below s (Q_rm3 Z a p1 p2 p3 u_iv u_q u_c u_o u_f u_s h0 n0) 0 0 (T15.setTop (mkF m 43 #[.val (.ref a), .val (.long p1), .second, .val (.int p2), .val (.int p3)] [(.int (nar .boolean v11)), (.ref a)]))
    have K16 : ∀ (T16 : State) (L16 : List Loc) (v17 : Int64) (X16 : Stand p l e ({ frames := 1, cells := 0, slots := 0, locals := 12 } : Room) s m #[(.ref a), (.long p1), (.int p2), (.int p3)] below meth c T16 L16 0 0) (e16 : T16.heap = h12) (N16 : Fr n0 L16) (hv17 : v17 = (if (nar .boolean v11) = 0 then v3 else (0 : Int64))), own_Go p e below s (Q_rm3 Z a p1 p2 p3 u_iv u_q u_c u_o u_f u_s h0 n0) 0 0 (T16.setTop (mkF m 54 #[.val (.ref a), .val (.long p1), .second, .val (.int p2), .val (.int p3)] [(.long v17), (.ref a)])) := by
      intro T16 L16 v17 X16 e16 N16 hv17
      have f19 := ((((F_a_firstCommitMs.other W2 (Or.inr (slot_ne (t := .long) (t' := .long) (Or.inr (hw _ (List.mem_of_getElem? (i := 28) rfl))) (Or.inr (hw _ (List.mem_of_getElem? (i := 19) rfl))) (by decide) (by decide) (by decide)))).other W4 (Or.inr (slot_ne (t := .long) (t' := .long) (Or.inr (hw _ (List.mem_of_getElem? (i := 28) rfl))) (Or.inr (hw _ (List.mem_of_getElem? (i := 22) rfl))) (by decide) (by decide) (by decide)))).other W7 (Or.inr (slot_ne (t := .long) (t' := .int) (Or.inr (hw _ (List.mem_of_getElem? (i := 28) rfl))) (Or.inr (hw _ (List.mem_of_getElem? (i := 24) rfl))) (by decide) (by decide) (by decide)))).other W12 (Or.inr (slot_ne (t := .long) (t' := .boolean) (Or.inr (hw _ (List.mem_of_getElem? (i := 28) rfl))) (Or.inr (hw _ (List.mem_of_getElem? (i := 26) rfl))) (by decide) (by decide) (by decide))))
      have f20 := (f14.wr W12)
      obtain ⟨T18, h18, X18, e18, W18, st18⟩ := putF X16 hx hZ hown (host := "") (Or.inl (hw _ (List.mem_of_getElem? (i := 27) rfl))) Via.refl e16 f19 f20 (Or.inr ⟨(hw _ (List.mem_of_getElem? (i := 28) rfl)), rfl, hnm⟩) (hw _ (List.mem_of_getElem? (i := 10) rfl)) (ty := .long) (by decide) rfl rfl (g := (mkF m 54 #[.val (.ref a), .val (.long p1), .second, .val (.int p2), .val (.int p3)] [(.long v17), (.ref a)])) rfl rfl (hb hby d3_54)
      have fw18 := f19.same W18
      have N18 := Fr.snoc X18 N16 g_a
      have kk18 : Keep h0 h18 [a] := kk12.wr W18 (Or.inl (List.mem_of_getElem? (i := 0) rfl))
      have zp18 : n0 ≤ h18.size := Nat.le_trans Z0 kk18.1
      refine own_go (fun tgt cont => st18 tgt cont) ?_
      show own_Go p e below s (Q_rm3 Z a p1 p2 p3 u_iv u_q u_c u_o u_f u_s h0 n0) 0 0 (T18.setTop (mkF m 57 #[.val (.ref a), .val (.long p1), .second, .val (.int p2), .val (.int p3)] []))
      refine own_go (B := T18.setTop (mkF m 60 #[.val (.ref a), .val (.long p1), .second, .val (.int p2), .val (.int p3)] [(.int (1 : Int32)), (.int p2), (.ref a)])) (fun tgt cont => ?_) ?_
      · refine XS.aloadN X18.here hx rfl (hb hby d3_57) rfl rfl ?_
        refine XS.iloadN X18.here hx rfl (hb hby d3_58) rfl ?_
        refine XT.iconstV X18.here hx rfl (1 : Int32) (hb hby d3_59) rfl ?_
        exact cont
      have K21 : ∀ (T21 : State) (L21 : List Loc) (v22 : Int64) (X21 : Stand p l e ({ frames := 1, cells := 0, slots := 0, locals := 12 } : Room) s m #[(.ref a), (.long p1), (.int p2), (.int p3)] below meth c T21 L21 0 0) (e21 : T21.heap = h18) (N21 : Fr n0 L21) (hv22 : v22 = (if (1 : Int32) < p2 then ((p1 - ((2 : Int64) * v3)) / ((p2 - (1 : Int32)).toInt64)) else (0 : Int64))), own_Go p e below s (Q_rm3 Z a p1 p2 p3 u_iv u_q u_c u_o u_f u_s h0 n0) 0 0 (T21.setTop (mkF m 82 #[.val (.ref a), .val (.long p1), .second, .val (.int p2), .val (.int p3)] [(.long v22), (.ref a)])) := by
        intro T21 L21 v22 X21 e21 N21 hv22
        have f24 := (((((F_a_standInStepMs.other W2 (Or.inr (slot_ne (t := .long) (t' := .long) (Or.inr (hw _ (List.mem_of_getElem? (i := 31) rfl))) (Or.inr (hw _ (List.mem_of_getElem? (i := 19) rfl))) (by decide) (by decide) (by decide)))).other W4 (Or.inr (slot_ne (t := .long) (t' := .long) (Or.inr (hw _ (List.mem_of_getElem? (i := 31) rfl))) (Or.inr (hw _ (List.mem_of_getElem? (i := 22) rfl))) (by decide) (by decide) (by decide)))).other W7 (Or.inr (slot_ne (t := .long) (t' := .int) (Or.inr (hw _ (List.mem_of_getElem? (i := 31) rfl))) (Or.inr (hw _ (List.mem_of_getElem? (i := 24) rfl))) (by decide) (by decide) (by decide)))).other W12 (Or.inr (slot_ne (t := .long) (t' := .boolean) (Or.inr (hw _ (List.mem_of_getElem? (i := 31) rfl))) (Or.inr (hw _ (List.mem_of_getElem? (i := 26) rfl))) (by decide) (by decide) (by decide)))).other W18 (Or.inr (slot_ne (t := .long) (t' := .long) (Or.inr (hw _ (List.mem_of_getElem? (i := 31) rfl))) (Or.inr (hw _ (List.mem_of_getElem? (i := 28) rfl))) (by decide) (by decide) (by decide))))
        have f25 := (f20.wr W18)
        obtain ⟨T23, h23, X23, e23, W23, st23⟩ := putF X21 hx hZ hown (host := "") (Or.inl (hw _ (List.mem_of_getElem? (i := 30) rfl))) Via.refl e21 f24 f25 (Or.inr ⟨(hw _ (List.mem_of_getElem? (i := 31) rfl)), rfl, hnm⟩) (hw _ (List.mem_of_getElem? (i := 10) rfl)) (ty := .long) (by decide) rfl rfl (g := (mkF m 82 #[.val (.ref a), .val (.long p1), .second, .val (.int p2), .val (.int p3)] [(.long v22), (.ref a)])) rfl rfl (hb hby d3_82)
        have fw23 := f24.same W23
        have N23 := Fr.snoc X23 N21 g_a
        have kk23 : Keep h0 h23 [a] := kk18.wr W23 (Or.inl (List.mem_of_getElem? (i := 0) rfl))
        have zp23 : n0 ≤ h23.size := Nat.le_trans Z0 kk23.1
        refine own_go (fun tgt cont => st23 tgt cont) ?_
        show own_Go p e below s (Q_rm3 Z a p1 p2 p3 u_iv u_q u_c u_o u_f u_s h0 n0) 0 0 (T23.setTop (mkF m 85 #[.val (.ref a), .val (.long p1), .second, .val (.int p2), .val (.int p3)] []))
        refine own_end X23 (v := none) (fun _ => rfl) hlk ?_ (by decide) (by decide) (fun fs hl => X23.returnOut hx Bd.returns (hb hby d3_85) hl)
        have f26 := (f25.wr W23)
        have f27 := (((((fw2.other W4 (Or.inr (slot_ne (t := .long) (t' := .long) (Or.inr (hw _ (List.mem_of_getElem? (i := 19) rfl))) (Or.inr (hw _ (List.mem_of_getElem? (i := 22) rfl))) (by decide) (by decide) (by decide)))).other W7 (Or.inr (slot_ne (t := .long) (t' := .int) (Or.inr (hw _ (List.mem_of_getElem? (i := 19) rfl))) (Or.inr (hw _ (List.mem_of_getElem? (i := 24) rfl))) (by decide) (by decide) (by decide)))).other W12 (Or.inr (slot_ne (t := .long) (t' := .boolean) (Or.inr (hw _ (List.mem_of_getElem? (i := 19) rfl))) (Or.inr (hw _ (List.mem_of_getElem? (i := 26) rfl))) (by decide) (by decide) (by decide)))).other W18 (Or.inr (slot_ne (t := .long) (t' := .long) (Or.inr (hw _ (List.mem_of_getElem? (i := 19) rfl))) (Or.inr (hw _ (List.mem_of_getElem? (i := 28) rfl))) (by decide) (by decide) (by decide)))).other W23 (Or.inr (slot_ne (t := .long) (t' := .long) (Or.inr (hw _ (List.mem_of_getElem? (i := 19) rfl))) (Or.inr (hw _ (List.mem_of_getElem? (i := 31) rfl))) (by decide) (by decide) (by decide))))
        have f28 := ((((fw4.other W7 (Or.inr (slot_ne (t := .long) (t' := .int) (Or.inr (hw _ (List.mem_of_getElem? (i := 22) rfl))) (Or.inr (hw _ (List.mem_of_getElem? (i := 24) rfl))) (by decide) (by decide) (by decide)))).other W12 (Or.inr (slot_ne (t := .long) (t' := .boolean) (Or.inr (hw _ (List.mem_of_getElem? (i := 22) rfl))) (Or.inr (hw _ (List.mem_of_getElem? (i := 26) rfl))) (by decide) (by decide) (by decide)))).other W18 (Or.inr (slot_ne (t := .long) (t' := .long) (Or.inr (hw _ (List.mem_of_getElem? (i := 22) rfl))) (Or.inr (hw _ (List.mem_of_getElem? (i := 28) rfl))) (by decide) (by decide) (by decide)))).other W23 (Or.inr (slot_ne (t := .long) (t' := .long) (Or.inr (hw _ (List.mem_of_getElem? (i := 22) rfl))) (Or.inr (hw _ (List.mem_of_getElem? (i := 31) rfl))) (by decide) (by decide) (by decide))))
        have f29 := (((fw7.other W12 (Or.inr (slot_ne (t := .int) (t' := .boolean) (Or.inr (hw _ (List.mem_of_getElem? (i := 24) rfl))) (Or.inr (hw _ (List.mem_of_getElem? (i := 26) rfl))) (by decide) (by decide) (by decide)))).other W18 (Or.inr (slot_ne (t := .int) (t' := .long) (Or.inr (hw _ (List.mem_of_getElem? (i := 24) rfl))) (Or.inr (hw _ (List.mem_of_getElem? (i := 28) rfl))) (by decide) (by decide) (by decide)))).other W23 (Or.inr (slot_ne (t := .int) (t' := .long) (Or.inr (hw _ (List.mem_of_getElem? (i := 24) rfl))) (Or.inr (hw _ (List.mem_of_getElem? (i := 31) rfl))) (by decide) (by decide) (by decide))))
        have f30 := ((fw12.other W18 (Or.inr (slot_ne (t := .boolean) (t' := .long) (Or.inr (hw _ (List.mem_of_getElem? (i := 26) rfl))) (Or.inr (hw _ (List.mem_of_getElem? (i := 28) rfl))) (by decide) (by decide) (by decide)))).other W23 (Or.inr (slot_ne (t := .boolean) (t' := .long) (Or.inr (hw _ (List.mem_of_getElem? (i := 26) rfl))) (Or.inr (hw _ (List.mem_of_getElem? (i := 31) rfl))) (by decide) (by decide) (by decide))))
        have f31 := (fw18.other W23 (Or.inr (slot_ne (t := .long) (t' := .long) (Or.inr (hw _ (List.mem_of_getElem? (i := 28) rfl))) (Or.inr (hw _ (List.mem_of_getElem? (i := 31) rfl))) (by decide) (by decide) (by decide))))
        rw [e23]
        subst hv3 hv11 hv17 hv22
        exact ⟨rfl, N23, kk23, f26, f27, (by unfold own_init_quarterMs; exact f28), f29, (by unfold own_init_oneTask; exact f30), (by unfold own_init_firstCommitMs; exact f31), (by unfold own_init_standInStepMs; exact fw23)⟩
      by_cases hc32 : (1 : Int32) < p2
      ·
        refine own_go (B := T18.setTop (mkF m 68 #[.val (.ref a), .val (.long p1), .second, .val (.int p2), .val (.int p3)] [(.ref a), (.long (2 : Int64)), (.long p1), (.ref a)])) (fun tgt cont => ?_) ?_
        · refine XS.icmpNo X18.here hx rfl (hb hby d3_60) rfl (XT.ii_le_f hc32) ?_
          refine XS.lloadN X18.here hx rfl (hb hby d3_63) rfl ?_
          refine Stand.ldc2J X18 hx hown (mvT hZ (hw _ (List.mem_of_getElem? (i := 29) rfl))) rfl (hb hby d3_64) ?_
          refine XS.aloadN X18.here hx rfl (hb hby d3_67) rfl rfl ?_
          exact cont
        have f34 := (((fw4.other W7 (Or.inr (slot_ne (t := .long) (t' := .int) (Or.inr (hw _ (List.mem_of_getElem? (i := 22) rfl))) (Or.inr (hw _ (List.mem_of_getElem? (i := 24) rfl))) (by decide) (by decide) (by decide)))).other W12 (Or.inr (slot_ne (t := .long) (t' := .boolean) (Or.inr (hw _ (List.mem_of_getElem? (i := 22) rfl))) (Or.inr (hw _ (List.mem_of_getElem? (i := 26) rfl))) (by decide) (by decide) (by decide)))).other W18 (Or.inr (slot_ne (t := .long) (t' := .long) (Or.inr (hw _ (List.mem_of_getElem? (i := 22) rfl))) (Or.inr (hw _ (List.mem_of_getElem? (i := 28) rfl))) (by decide) (by decide) (by decide))))
        obtain ⟨T33, X33, e33, st33⟩ := getF X18 hx hZ hown (host := "") (Or.inl (hw _ (List.mem_of_getElem? (i := 21) rfl))) Via.refl e18 f34 (g := (mkF m 68 #[.val (.ref a), .val (.long p1), .second, .val (.int p2), .val (.int p3)] [(.ref a), (.long (2 : Int64)), (.long p1), (.ref a)])) rfl rfl (hb hby d3_68)
        refine own_go (fun tgt cont => st33 tgt cont) ?_
        show own_Go p e below s (Q_rm3 Z a p1 p2 p3 u_iv u_q u_c u_o u_f u_s h0 n0) 0 0 (T33.setTop (mkF m 71 #[.val (.ref a), .val (.long p1), .second, .val (.int p2), .val (.int p3)] [(.long v3), (.long (2 : Int64)), (.long p1), (.ref a)]))
        refine own_go (B := T33.setTop (mkF m 82 #[.val (.ref a), .val (.long p1), .second, .val (.int p2), .val (.int p3)] [(.long ((p1 - ((2 : Int64) * v3)) / ((p2 - (1 : Int32)).toInt64))), (.ref a)])) (fun tgt cont => ?_) ?_
        · refine XS.lmul X33.here hx rfl (hb hby d3_71) rfl ?_
          refine XS.lsub X33.here hx rfl (hb hby d3_72) rfl ?_
          refine XS.iloadN X33.here hx rfl (hb hby d3_73) rfl ?_
          refine XT.iconstV X33.here hx rfl (1 : Int32) (hb hby d3_74) rfl ?_
          refine XS.isub X33.here hx rfl (hb hby d3_75) rfl ?_
          refine XS.i2l X33.here hx rfl (hb hby d3_76) rfl ?_
          refine XS.ldiv X33.here hx rfl (hb hby d3_77) rfl (own_nz hc32) ?_
          refine XS.goto X33.here hx rfl (pc0 := 78) (pc' := 82) rfl (hb hby d3_78) (by decide) (by decide) ?_
          exact cont
        exact K21 _ _ ((p1 - ((2 : Int64) * v3)) / ((p2 - (1 : Int32)).toInt64)) (own_wide X33 (by decide) (by decide)) e33 N18 (by simp only [if_pos hc32])
      ·
        refine own_go (B := T18.setTop (mkF m 82 #[.val (.ref a), .val (.long p1), .second, .val (.int p2), .val (.int p3)] [(.long (0 : Int64)), (.ref a)])) (fun tgt cont => ?_) ?_
        · refine XS.icmpYes X18.here hx rfl (pc0 := 60) (pc' := 81) rfl (hb hby d3_60) rfl (XT.ii_le_t hc32) (by decide) (by decide) ?_
          refine XT.lconstV X18.here hx rfl (0 : Int64) (hb hby d3_81) rfl ?_
          exact cont
        exact K21 _ _ (0 : Int64) (own_wide X18 (by decide) (by decide)) e18 N18 (by simp only [if_neg hc32])
    by_cases hc35 : (nar .boolean v11) = 0
    ·
      refine own_go (B := T15.setTop (mkF m 51 #[.val (.ref a), .val (.long p1), .second, .val (.int p2), .val (.int p3)] [(.ref a), (.ref a)])) (fun tgt cont => ?_) ?_
      · refine XS.ifYes X15.here hx rfl (pc0 := 43) (pc' := 50) rfl (hb hby d3_43) rfl (XT.i0_eq_t hc35) (by decide) (by decide) ?_
        refine XS.aloadN X15.here hx rfl (hb hby d3_50) rfl rfl ?_
        exact cont
      have f37 := ((fw4.other W7 (Or.inr (slot_ne (t := .long) (t' := .int) (Or.inr (hw _ (List.mem_of_getElem? (i := 22) rfl))) (Or.inr (hw _ (List.mem_of_getElem? (i := 24) rfl))) (by decide) (by decide) (by decide)))).other W12 (Or.inr (slot_ne (t := .long) (t' := .boolean) (Or.inr (hw _ (List.mem_of_getElem? (i := 22) rfl))) (Or.inr (hw _ (List.mem_of_getElem? (i := 26) rfl))) (by decide) (by decide) (by decide))))
      obtain ⟨T36, X36, e36, st36⟩ := getF X15 hx hZ hown (host := "") (Or.inl (hw _ (List.mem_of_getElem? (i := 21) rfl))) Via.refl e15 f37 (g := (mkF m 51 #[.val (.ref a), .val (.long p1), .second, .val (.int p2), .val (.int p3)] [(.ref a), (.ref a)])) rfl rfl (hb hby d3_51)
      refine own_go (fun tgt cont => st36 tgt cont) ?_
      show own_Go p e below s (Q_rm3 Z a p1 p2 p3 u_iv u_q u_c u_o u_f u_s h0 n0) 0 0 (T36.setTop (mkF m 54 #[.val (.ref a), .val (.long p1), .second, .val (.int p2), .val (.int p3)] [(.long v3), (.ref a)]))
      exact K16 _ _ v3 (own_wide X36 (by decide) (by decide)) e36 N12 (by simp only [if_pos hc35])
    ·
      refine own_go (B := T15.setTop (mkF m 54 #[.val (.ref a), .val (.long p1), .second, .val (.int p2), .val (.int p3)] [(.long (0 : Int64)), (.ref a)])) (fun tgt cont => ?_) ?_
      · refine XS.ifNo X15.here hx rfl (hb hby d3_43) rfl (XT.i0_eq_f hc35) ?_
        refine XT.lconstV X15.here hx rfl (0 : Int64) (hb hby d3_46) rfl ?_
        refine XS.goto X15.here hx rfl (pc0 := 47) (pc' := 54) rfl (hb hby d3_47) (by decide) (by decide) ?_
        exact cont
      exact K16 _ _ (0 : Int64) (own_wide X15 (by decide) (by decide)) e15 N12 (by simp only [if_neg hc35])
  by_cases hc38 : p3 = (1 : Int32)
  ·
    refine own_go (B := T7.setTop (mkF m 35 #[.val (.ref a), .val (.long p1), .second, .val (.int p2), .val (.int p3)] [(.int (1 : Int32)), (.ref a)])) (fun tgt cont => ?_) ?_
    · refine XS.icmpNo X7.here hx rfl (hb hby d3_27) rfl (XT.ii_ne_f hc38) ?_
      refine XT.iconstV X7.here hx rfl (1 : Int32) (hb hby d3_30) rfl ?_
      refine XS.goto X7.here hx rfl (pc0 := 31) (pc' := 35) rfl (hb hby d3_31) (by decide) (by decide) ?_
      exact cont
    exact K10 (1 : Int32) (by simp only [if_pos hc38])
  ·
    refine own_go (B := T7.setTop (mkF m 35 #[.val (.ref a), .val (.long p1), .second, .val (.int p2), .val (.int p3)] [(.int (0 : Int32)), (.ref a)])) (fun tgt cont => ?_) ?_
    · refine XS.icmpYes X7.here hx rfl (pc0 := 27) (pc' := 34) rfl (hb hby d3_27) rfl (XT.ii_ne_t hc38) (by decide) (by decide) ?_
      refine XT.iconstV X7.here hx rfl (0 : Int32) (hb hby d3_34) rfl ?_
      exact cont
    exact K10 (0 : Int32) (by simp only [if_neg hc38])
def own_un_r (u_iv : Int64) (u_o : Int32) : Int64 := if u_o = 0 then ((own_max (1 : Int64) (u_iv / (16 : Int64)))) else (9223372036854775807 : Int64)
def Q_rm5 (Z : State) (a : Addr) (u_iv : Int64) (u_o : Int32) (h0 : Heap) (n0 : Nat) (v : Option Value) (h : Heap) (L : List Loc) : Prop := v = some (.long (own_un_r u_iv u_o)) ∧ Fr n0 L ∧ h = h0
theorem own_pd0 : parseMethodDescriptor "(JJ)J" = some ⟨[.long, .long], some .long⟩ := by decide +kernel
theorem d5_0 : decode prog_1_method_11_code 0 = .ok (.aload_n 0, 1) := by decide +kernel
theorem d5_1 : decode prog_1_method_11_code 1 = .ok (.getfield 22, 3) := by decide +kernel
theorem d5_4 : decode prog_1_method_11_code 4 = .ok (.ifCond .eq 9, 3) := by decide +kernel
theorem d5_7 : decode prog_1_method_11_code 7 = .ok (.ldc2_w 52, 3) := by decide +kernel
theorem d5_10 : decode prog_1_method_11_code 10 = .ok (.goto 15, 3) := by decide +kernel
theorem d5_13 : decode prog_1_method_11_code 13 = .ok (.lconst 1, 1) := by decide +kernel
theorem d5_14 : decode prog_1_method_11_code 14 = .ok (.aload_n 0, 1) := by decide +kernel
theorem d5_15 : decode prog_1_method_11_code 15 = .ok (.getfield 7, 3) := by decide +kernel
theorem d5_18 : decode prog_1_method_11_code 18 = .ok (.ldc2_w 54, 3) := by decide +kernel
theorem d5_21 : decode prog_1_method_11_code 21 = .ok (.ldiv, 1) := by decide +kernel
theorem d5_22 : decode prog_1_method_11_code 22 = .ok (.invokestatic 56, 3) := by decide +kernel
theorem d5_25 : decode prog_1_method_11_code 25 = .ok (.lreturn, 1) := by decide +kernel
set_option maxRecDepth 65536 in
set_option maxHeartbeats 40000000 in
theorem rm5 (l : Launch) (Z : State) (a0 : Array Value) (hw : ∀ d ∈ tables_1, d.before a0 Z = true) (ws : List Jvm.Cond) (a : Addr) (u_iv : Int64) (u_o : Int32) (h0 : Heap) (n0 : Nat) (Z0 : n0 ≤ h0.size) (E_a : Exa Z h0 a "com/example/keyfold/keyfold/CommitSchedule") (F_a_intervalMs : Fld Z h0 a "com/example/keyfold/keyfold/CommitSchedule" "intervalMs" "J" (.long u_iv)) (F_a_oneTask : Fld Z h0 a "com/example/keyfold/keyfold/CommitSchedule" "oneTask" "Z" (.int u_o))  :
    MetFree l (⟨"com/example/keyfold/keyfold/CommitSchedule", "unwrittenRowsMs", "()J"⟩ : MethodName) (head1 (Jvm.Cond.code (⟨"com/example/keyfold/keyfold/CommitSchedule", "unwrittenRowsMs", "()J"⟩ : MethodName) prog_1_method_11_code 1 (some .long) :: ws) ({ frames := 1, cells := 0, slots := 0, locals := 15 } : Room)) (fun aa U => aa = #[(.ref a)] ∧ Z.Warmed39 U.vm ∧ U.heap = h0) (fun _ _ _ _ _ => True) (fun _ U o U' => ∃ v L, o = .returned v ∧ Q_rm5 Z a u_iv u_o h0 n0 v U'.heap L ∧ FrameEnd U o U' L ({ frames := 1, cells := 0, slots := 0, locals := 15 } : Room).cells ({ frames := 1, cells := 0, slots := 0, locals := 15 } : Room).slots) := by
  refine MetFree.of_bodySF (plainFor_of_name own_pn0) hisR ?_
  intro p e s m args below meth c s₁ Bd hml0 hP hK
  obtain ⟨rfl, hZ, hh⟩ := hP
  have hx := Bd.exec
  have hby := Bd.bytes
  have hml : c.maxLocals = 1 := hml0
  have hlk : meth.locks = false := BodyLoose.notSynchronized Bd
  have hown : s.vm.findClass "com/example/keyfold/keyfold/CommitSchedule" = some m.cls := findClass_of_methodNamed Bd.named
  have hnm := (name_of_methodNamed Bd.named Bd.method).1
  have X0 : Stand p l e ({ frames := 1, cells := 0, slots := 0, locals := 15 } : Room) s m #[(.ref a)] below meth c s₁ [] 0 0 := Stand.of_body Bd
  have e0 : s₁.heap = h0 := by rw [← hh, Bd.state]; rfl
  have N0 := Fr.nil n0
  show own_Go p e below s (Q_rm5 Z a u_iv u_o h0 n0) 0 0 (s₁.setTop (entryFrame m #[(.ref a)] 1))
  refine own_go (B := s₁.setTop (mkF m 0 #[.val (.ref a)] [])) (fun tgt cont => (XT.entry rfl).trans cont) ?_
  refine own_go (B := s₁.setTop (mkF m 1 #[.val (.ref a)] [(.ref a)])) (fun tgt cont => ?_) ?_
  · refine XS.aloadN X0.here hx rfl (hb hby d5_0) rfl rfl ?_
    exact cont
  obtain ⟨T1, X1, e1, st1⟩ := getF X0 hx hZ hown (host := "") (Or.inl (hw _ (List.mem_of_getElem? (i := 25) rfl))) Via.refl e0 F_a_oneTask (g := (mkF m 1 #[.val (.ref a)] [(.ref a)])) rfl rfl (hb hby d5_1)
  refine own_go (fun tgt cont => st1 tgt cont) ?_
  show own_Go p e below s (Q_rm5 Z a u_iv u_o h0 n0) 0 0 (T1.setTop (mkF m 4 #[.val (.ref a)] [(.int u_o)]))
  by_cases hc2 : u_o = 0
  ·
    refine own_go (B := T1.setTop (mkF m 15 #[.val (.ref a)] [(.ref a), (.long (1 : Int64))])) (fun tgt cont => ?_) ?_
    · refine XS.ifYes X1.here hx rfl (pc0 := 4) (pc' := 13) rfl (hb hby d5_4) rfl (XT.i0_eq_t hc2) (by decide) (by decide) ?_
      refine XT.lconstV X1.here hx rfl (1 : Int64) (hb hby d5_13) rfl ?_
      refine XS.aloadN X1.here hx rfl (hb hby d5_14) rfl rfl ?_
      exact cont
    obtain ⟨T3, X3, e3, st3⟩ := getF X1 hx hZ hown (host := "") (Or.inl (hw _ (List.mem_of_getElem? (i := 18) rfl))) Via.refl e1 F_a_intervalMs (g := (mkF m 15 #[.val (.ref a)] [(.ref a), (.long (1 : Int64))])) rfl rfl (hb hby d5_15)
    refine own_go (fun tgt cont => st3 tgt cont) ?_
    show own_Go p e below s (Q_rm5 Z a u_iv u_o h0 n0) 0 0 (T3.setTop (mkF m 18 #[.val (.ref a)] [(.long u_iv), (.long (1 : Int64))]))
    refine own_go (B := T3.setTop (mkF m 22 #[.val (.ref a)] [(.long (u_iv / (16 : Int64))), (.long (1 : Int64))])) (fun tgt cont => ?_) ?_
    · refine Stand.ldc2J X3 hx hown (mvT hZ (hw _ (List.mem_of_getElem? (i := 39) rfl))) rfl (hb hby d5_18) ?_
      refine XS.ldiv X3.here hx rfl (hb hby d5_21) rfl (by decide) ?_
      exact cont
    -- pc 22: Math.max
    obtain ⟨_, _, ⟨T4, L4, k4, n4⟩, -, X4, ⟨Lc4, hQ4, l4, y4, z4⟩, st4⟩ := Jvm.LawKit.callS X3 hx (y := (⟨"java/lang/Math", "max", "(JJ)J"⟩ : MethodName)) hown (mvT hZ (hw _ (List.mem_of_getElem? (i := 40) rfl))) (mvT hZ (hw _ (List.mem_of_getElem? (i := 2) rfl))) (mvT hZ (hw _ (List.mem_of_getElem? (i := 3) rfl))) (mvT hZ (hw _ (List.mem_of_getElem? (i := 4) rfl))) (by decide) (backOf (W := 0) (rm1 l Z a0 hw [] (1 : Int64) (u_iv / (16 : Int64)) h0 n0 Z0 ) hZ (hw _ (List.mem_of_getElem? (i := 4) rfl)) (hw _ (List.mem_of_getElem? (i := 3) rfl)) (by decide) (by decide)) (g := (mkF m 22 #[.val (.ref a)] [(.long (u_iv / (16 : Int64))), (.long (1 : Int64))])) rfl (by rw [hml]; rfl) (argsL := [(.long (1 : Int64)), (.long (u_iv / (16 : Int64)))]) (rest := []) (lenOf own_pd0 rfl) rfl (by show 2 * 0 + _ ≤ _; exact Nat.le_of_eq rfl) (hb hby d5_22) (fun _ _ => ⟨rfl, e3, (by decide : 0 + 0 ≤ _), (by decide : 0 + 0 ≤ _)⟩)
    dsimp only [Pt.U, Pt.locs, Pt.cells, Pt.slots] at X4 l4 y4 z4 st4 hQ4
    subst l4 y4 z4
    obtain ⟨rfl, N4q, e4⟩ := hQ4
    have N4 := Fr.app N0 N4q
    refine own_go (fun tgt cont => st4 tgt cont) ?_
    show own_Go p e below s (Q_rm5 Z a u_iv u_o h0 n0) 0 0 (T4.setTop (mkF m 25 #[.val (.ref a)] [(.long (own_max (1 : Int64) (u_iv / (16 : Int64))))]))
    generalize hr5 : (own_max (1 : Int64) (u_iv / (16 : Int64))) = r5
    refine own_end X4 (v := some (.long r5)) (fun h => by rw [Bd.returns] at h; cases h) hlk ?_ (by decide) (by decide) (fun fs hl => retOut X4 hx Bd.returns rfl (Or.inr (Or.inl ⟨rfl, rfl, _, rfl⟩)) (hb hby d5_25) hl)
    subst hr5
    exact ⟨(by unfold own_un_r; first | exact rfl | (simp only [if_pos hc2]; first | done | exact rfl)), N4, e4⟩
  ·
    refine own_go (B := T1.setTop (mkF m 25 #[.val (.ref a)] [(.long (9223372036854775807 : Int64))])) (fun tgt cont => ?_) ?_
    · refine XS.ifNo X1.here hx rfl (hb hby d5_4) rfl (XT.i0_eq_f hc2) ?_
      refine Stand.ldc2J X1 hx hown (mvT hZ (hw _ (List.mem_of_getElem? (i := 37) rfl))) rfl (hb hby d5_7) ?_
      refine XS.goto X1.here hx rfl (pc0 := 10) (pc' := 25) rfl (hb hby d5_10) (by decide) (by decide) ?_
      exact cont
    refine own_end X1 (v := some (.long (9223372036854775807 : Int64))) (fun h => by rw [Bd.returns] at h; cases h) hlk ?_ (by decide) (by decide) (fun fs hl => retOut X1 hx Bd.returns rfl (Or.inr (Or.inl ⟨rfl, rfl, _, rfl⟩)) (hb hby d5_25) hl)
    exact ⟨(by unfold own_un_r; first | exact rfl | (simp only [if_neg hc2]; first | done | exact rfl)), N0, e1⟩
theorem own_max1 (x : Int64) : (own_max 1 x).toInt = if 1 < x.toInt then x.toInt else 1 := by
  unfold own_max
  simp only [Int64.lt_iff_toInt_lt]
  have e1 : (1 : Int64).toInt = 1 := rfl
  rw [e1]
  split <;> rfl
theorem own_ivF (m : Int32) (x : Int64) (k : Nat) (q : Int64) (hk : k ≤ 63) (hq : q.toBitVec.toNat = 2 ^ k - 1) (hk2 : k ≤ 62) : 1 ≤ (if (m &&& (1 : Int32)) = 0 then own_max 1 (x &&& (9223372036854775807 : Int64)) else (x &&& q) + 1).toInt := by
  split
  · rw [own_max1]; split <;> omega
  · have h := c_maskL x q k hk hq
    have h0 : (0 : Int) < (2 ^ k : Nat) := by exact_mod_cast Nat.two_pow_pos k
    have h1 := Int.emod_nonneg x.toInt (Int.ne_of_gt h0)
    have h2 := Int.emod_lt_of_pos x.toInt h0
    have h3 : (2 ^ k : Nat) ≤ 2 ^ 62 := Nat.pow_le_pow_right (by omega) hk2
    have a := c_ladd (x &&& q) 1
    have r := rng64 ((x &&& q) + 1)
    have e1 : (1 : Int64).toInt = 1 := rfl
    rw [e1] at a
    generalize (x &&& q) + 1 = Y at *
    generalize (x &&& q) = W at *
    omega
/-- the two laws' common shape: r = max 1 (iv / d), d = 16 or 64 -/
theorem own_div (iv d : Int64) (n : Int) (hd : d.toInt = n) (hn : 1 < n) (hv : 1 ≤ iv.toInt) : (own_max 1 (iv / d)).toInt = if iv.toInt < n then 1 else iv.toInt / n := by
  have h := (c_ldiv iv d n hd (by intro e; rw [e] at hd; have : (-1 : Int64).toInt = -1 := rfl; omega)).1 (by omega)
  rw [own_max1, h]
  have q0 : 0 ≤ iv.toInt / n := Int.ediv_nonneg (by omega) (by omega)
  by_cases c : iv.toInt < n
  · rw [if_pos c, Int.ediv_eq_zero_of_lt (by omega) c]; rfl
  · rw [if_neg c]
    have : 1 ≤ iv.toInt / n := by
      have := Int.ediv_le_ediv (a := n) (b := iv.toInt) (c := n) (by omega) (by omega)
      rw [Int.ediv_self (by omega)] at this
      exact this
    split
    · rfl
    · omega

def Q0 (n0 : Nat) (v : Option Value) (h : Heap) (L : List Loc) : Prop := v = some (.int (1 : Int32)) ∧ Fr n0 L
theorem own_pn1 : plainName "com/example/keyfold/keyfold/CommitScheduleUnwrittenRowsMsPinLaw" = true := by first | (simp [plainName, overriddenIn]; done) | decide +kernel
theorem own_pd1 : parseMethodDescriptor "(II)I" = some ⟨[.int, .int], some .int⟩ := by decide +kernel
theorem own_pd2 : parseMethodDescriptor "(JII)V" = some ⟨[.long, .int, .int], none⟩ := by decide +kernel
theorem own_pd3 : parseMethodDescriptor "()J" = some ⟨[], some .long⟩ := by decide +kernel
theorem own_eq0 (p4 : Int32) (p1 : Int64)  : 1 ≤ ((if (p4 &&& (1 : Int32)) = 0 then ((own_max (1 : Int64) (p1 &&& (9223372036854775807 : Int64)))) else ((p1 &&& (31 : Int64)) + (1 : Int64)))).toInt := by
  exact own_ivF p4 p1 5 31 (by decide) (by decide) (by decide)
theorem own_eq1 (v2 : Int64) (v6 : Int32) (hp0 : v6 = (1 : Int32)) (hp1 : 1 ≤ v2.toInt) : ((own_un_r v2 ((own_init_oneTask v6)))) = (9223372036854775807 : Int64) := by
  unfold own_un_r own_init_oneTask
  rw [if_pos hp0, if_neg (by decide)]
theorem own_eq2 (v2 : Int64) (v6 : Int32) (hp0 : ¬ (v6 = (1 : Int32))) (hp1 : v2 < (16 : Int64)) (hp2 : 1 ≤ v2.toInt) : ((own_un_r v2 ((own_init_oneTask v6)))) = (1 : Int64) := by
  unfold own_un_r own_init_oneTask
  rw [if_neg hp0, if_pos (by decide)]
  have h := own_div v2 16 16 rfl (by decide) hp2
  have e16 : (16 : Int64).toInt = 16 := rfl
  have e0 : (0 : Int64).toInt = 0 := rfl
  have e1 : (1 : Int64).toInt = 1 := rfl
  have c := hp1
  rw [Int64.lt_iff_toInt_lt, e16] at c
  rw [if_pos (by omega)] at h
  apply Int64.toInt_inj.mp
  rw [h, e1]
theorem own_eq3 (v2 : Int64) (v6 : Int32) (hp0 : ¬ (v6 = (1 : Int32))) (hp1 : ¬ (v2 < (16 : Int64))) (hp2 : 1 ≤ v2.toInt) : ¬ (((own_un_r v2 ((own_init_oneTask v6)))) < (1 : Int64)) := by
  unfold own_un_r own_init_oneTask
  rw [if_neg hp0, if_pos (by decide)]
  have h := own_div v2 16 16 rfl (by decide) hp2
  have e16 : (16 : Int64).toInt = 16 := rfl
  have e0 : (0 : Int64).toInt = 0 := rfl
  have e1 : (1 : Int64).toInt = 1 := rfl
  have c := hp1
  rw [Int64.lt_iff_toInt_lt, e16] at c
  rw [if_neg (by omega)] at h
  rw [Int64.lt_iff_toInt_lt, h, e1]
  omega
theorem own_eq4 (v2 : Int64) (v6 : Int32) (hp0 : ¬ (v6 = (1 : Int32))) (hp1 : ¬ (v2 < (16 : Int64))) (hp2 : 1 ≤ v2.toInt) : ¬ ((576460752303423487 : Int64) < ((own_un_r v2 ((own_init_oneTask v6))))) := by
  unfold own_un_r own_init_oneTask
  rw [if_neg hp0, if_pos (by decide)]
  have h := own_div v2 16 16 rfl (by decide) hp2
  have e16 : (16 : Int64).toInt = 16 := rfl
  have e0 : (0 : Int64).toInt = 0 := rfl
  have e1 : (1 : Int64).toInt = 1 := rfl
  have c := hp1
  rw [Int64.lt_iff_toInt_lt, e16] at c
  rw [if_neg (by omega)] at h
  have r := rng64 v2
  have e5 : (576460752303423487 : Int64).toInt = 576460752303423487 := rfl
  rw [Int64.lt_iff_toInt_lt, h, e5]
  omega
theorem own_eq5 (v2 : Int64) (v6 : Int32) (hp0 : ¬ (v6 = (1 : Int32))) (hp1 : ¬ (v2 < (16 : Int64))) (hp2 : 1 ≤ v2.toInt) : ¬ (((v2 - ((16 : Int64) * ((own_un_r v2 ((own_init_oneTask v6))))))) < (0 : Int64)) := by
  unfold own_un_r own_init_oneTask
  rw [if_neg hp0, if_pos (by decide)]
  have h := own_div v2 16 16 rfl (by decide) hp2
  have e16 : (16 : Int64).toInt = 16 := rfl
  have e0 : (0 : Int64).toInt = 0 := rfl
  have e1 : (1 : Int64).toInt = 1 := rfl
  have c := hp1
  rw [Int64.lt_iff_toInt_lt, e16] at c
  rw [if_neg (by omega)] at h
  generalize own_max (1 : Int64) (v2 / (16 : Int64)) = r at *
  have s := c_lmul 16 r
  rw [e16] at s
  have r1 := rng64 (16 * r)
  generalize (16 * r) = y at *
  have d := c_lsub v2 y
  have r2 := rng64 (v2 - y)
  have r3 := rng64 v2
  generalize v2 - y = z at *
  rw [Int64.lt_iff_toInt_lt]
  rw [e0]
  omega
theorem own_eq6 (v2 : Int64) (v6 : Int32) (hp0 : ¬ (v6 = (1 : Int32))) (hp1 : ¬ (v2 < (16 : Int64))) (hp2 : 1 ≤ v2.toInt) : ((v2 - ((16 : Int64) * ((own_un_r v2 ((own_init_oneTask v6))))))) < (16 : Int64) := by
  unfold own_un_r own_init_oneTask
  rw [if_neg hp0, if_pos (by decide)]
  have h := own_div v2 16 16 rfl (by decide) hp2
  have e16 : (16 : Int64).toInt = 16 := rfl
  have e0 : (0 : Int64).toInt = 0 := rfl
  have e1 : (1 : Int64).toInt = 1 := rfl
  have c := hp1
  rw [Int64.lt_iff_toInt_lt, e16] at c
  rw [if_neg (by omega)] at h
  generalize own_max (1 : Int64) (v2 / (16 : Int64)) = r at *
  have s := c_lmul 16 r
  rw [e16] at s
  have r1 := rng64 (16 * r)
  generalize (16 * r) = y at *
  have d := c_lsub v2 y
  have r2 := rng64 (v2 - y)
  have r3 := rng64 v2
  generalize v2 - y = z at *
  rw [Int64.lt_iff_toInt_lt]
  rw [e16]
  omega
set_option maxRecDepth 65536 in
set_option maxHeartbeats 40000000 in
theorem rm0 (l : Launch) (Z : State) (a0 : Array Value) (hw : ∀ d ∈ tables_1, d.before a0 Z = true) (ws : List Jvm.Cond) (p1 : Int64) (p2 : Int32) (p3 : Int32) (p4 : Int32) (h0 : Heap) (n0 : Nat) (Z0 : n0 ≤ h0.size)  :
    MetFree l x (head1 (Jvm.Cond.code x code maxLocals ret :: ws) room_1) (fun aa U => aa = #[(.long p1), (.int p2), (.int p3), (.int p4)] ∧ Z.Warmed39 U.vm ∧ U.heap = h0) (fun _ _ _ _ _ => True) (fun _ U o U' => ∃ v L, o = .returned v ∧ Q0 n0 v U'.heap L ∧ FrameEnd U o U' L room_1.cells room_1.slots) := by
  refine MetFree.of_bodySF (plainFor_of_name own_pn1) hisR ?_
  intro p e s m args below meth c s₁ Bd hml0 hP hK
  obtain ⟨rfl, hZ, hh⟩ := hP
  have hx := Bd.exec
  have hby := Bd.bytes
  have hml : c.maxLocals = 14 := hml0
  have hlk : meth.locks = false := BodyLoose.notSynchronized Bd
  have hown : s.vm.findClass "com/example/keyfold/keyfold/CommitScheduleUnwrittenRowsMsPinLaw" = some m.cls := findClass_of_methodNamed Bd.named
  have hnm := (name_of_methodNamed Bd.named Bd.method).1
  have X0 : Stand p l e room_1 s m #[(.long p1), (.int p2), (.int p3), (.int p4)] below meth c s₁ [] 0 0 := Stand.of_body Bd
  have e0 : s₁.heap = h0 := by rw [← hh, Bd.state]; rfl
  have N0 := Fr.nil n0
  show own_Go p e below s (Q0 n0) room_1.cells room_1.slots (s₁.setTop (entryFrame m #[(.long p1), (.int p2), (.int p3), (.int p4)] maxLocals))
  refine own_go (B := s₁.setTop (mkF m 0 #[.val (.long p1), .second, .val (.int p2), .val (.int p3), .val (.int p4), .unset, .unset, .unset, .unset, .unset, .unset, .unset, .unset, .unset] [])) (fun tgt cont => (XT.entry rfl).trans cont) ?_
  refine own_go (B := s₁.setTop (mkF m 4 #[.val (.long p1), .second, .val (.int p2), .val (.int p3), .val (.int p4), .unset, .unset, .unset, .unset, .unset, .unset, .unset, .unset, .unset] [(.int (p4 &&& (1 : Int32)))])) (fun tgt cont => ?_) ?_
  · refine XS.iload X0.here hx rfl (hb hby at_0) rfl ?_
    refine XT.iconstV X0.here hx rfl (1 : Int32) (hb hby at_2) rfl ?_
    refine XS.iand X0.here hx rfl (hb hby at_3) rfl ?_
    exact cont
  have K1 : ∀ (T1 : State) (L1 : List Loc) (v2 : Int64) (X1 : Stand p l e room_1 s m #[(.long p1), (.int p2), (.int p3), (.int p4)] below meth c T1 L1 0 0) (e1 : T1.heap = h0) (N1 : Fr n0 L1) (hv2 : v2 = (if (p4 &&& (1 : Int32)) = 0 then ((own_max (1 : Int64) (p1 &&& (9223372036854775807 : Int64)))) else ((p1 &&& (31 : Int64)) + (1 : Int64)))), own_Go p e below s (Q0 n0) room_1.cells room_1.slots (T1.setTop (mkF m 26 #[.val (.long p1), .second, .val (.int p2), .val (.int p3), .val (.int p4), .unset, .unset, .unset, .unset, .unset, .unset, .unset, .unset, .unset] [(.long v2)])) := by
    intro T1 L1 v2 X1 e1 N1 hv2
    refine own_go (B := T1.setTop (mkF m 33 #[.val (.long p1), .second, .val (.int p2), .val (.int p3), .val (.int p4), .val (.long v2), .second, .unset, .unset, .unset, .unset, .unset, .unset, .unset] [(.int (p2 &&& (2147483647 : Int32))), (.int (1 : Int32))])) (fun tgt cont => ?_) ?_
    · refine XS.lstore X1.here hx rfl (hb hby at_26) rfl (l' := #[.val (.long p1), .second, .val (.int p2), .val (.int p3), .val (.int p4), .val (.long v2), .second, .unset, .unset, .unset, .unset, .unset, .unset, .unset]) rfl ?_
      refine XT.iconstV X1.here hx rfl (1 : Int32) (hb hby at_28) rfl ?_
      refine XS.iloadN X1.here hx rfl (hb hby at_29) rfl ?_
      refine Stand.ldcI X1 hx hown (mvT hZ (hw _ (List.mem_of_getElem? (i := 5) rfl))) rfl (hb hby at_30) ?_
      refine XS.iand X1.here hx rfl (hb hby at_32) rfl ?_
      exact cont
    -- pc 33: Math.max
    obtain ⟨_, _, ⟨T3, L3, k3, n3⟩, -, X3, ⟨Lc3, hQ3, l3, y3, z3⟩, st3⟩ := Jvm.LawKit.callS X1 hx (y := (⟨"java/lang/Math", "max", "(II)I"⟩ : MethodName)) hown (mvT hZ (hw _ (List.mem_of_getElem? (i := 6) rfl))) (mvT hZ (hw _ (List.mem_of_getElem? (i := 7) rfl))) (mvT hZ (hw _ (List.mem_of_getElem? (i := 3) rfl))) (mvT hZ (hw _ (List.mem_of_getElem? (i := 8) rfl))) (by decide) (backOf (W := 0) (rm2 l Z a0 hw [] (1 : Int32) (p2 &&& (2147483647 : Int32)) h0 n0 Z0 ) hZ (hw _ (List.mem_of_getElem? (i := 8) rfl)) (hw _ (List.mem_of_getElem? (i := 3) rfl)) (by decide) (by decide)) (g := (mkF m 33 #[.val (.long p1), .second, .val (.int p2), .val (.int p3), .val (.int p4), .val (.long v2), .second, .unset, .unset, .unset, .unset, .unset, .unset, .unset] [(.int (p2 &&& (2147483647 : Int32))), (.int (1 : Int32))])) rfl (by rw [hml]; rfl) (argsL := [(.int (1 : Int32)), (.int (p2 &&& (2147483647 : Int32)))]) (rest := []) (lenOf own_pd1 rfl) rfl (by show 2 * 0 + _ ≤ _; exact Nat.le_of_eq rfl) (hb hby at_33) (fun _ _ => ⟨rfl, e1, (by decide : 0 + 0 ≤ _), (by decide : 0 + 0 ≤ _)⟩)
    dsimp only [Pt.U, Pt.locs, Pt.cells, Pt.slots] at X3 l3 y3 z3 st3 hQ3
    subst l3 y3 z3
    obtain ⟨rfl, N3q, e3⟩ := hQ3
    have N3 := Fr.app N1 N3q
    refine own_go (fun tgt cont => st3 tgt cont) ?_
    show own_Go p e below s (Q0 n0) room_1.cells room_1.slots (T3.setTop (mkF m 36 #[.val (.long p1), .second, .val (.int p2), .val (.int p3), .val (.int p4), .val (.long v2), .second, .unset, .unset, .unset, .unset, .unset, .unset, .unset] [(.int (own_maxI (1 : Int32) (p2 &&& (2147483647 : Int32))))]))
    generalize hr4 : (own_maxI (1 : Int32) (p2 &&& (2147483647 : Int32))) = r4
    refine own_go (B := T3.setTop (mkF m 42 #[.val (.long p1), .second, .val (.int p2), .val (.int p3), .val (.int p4), .val (.long v2), .second, .val (.int r4), .unset, .unset, .unset, .unset, .unset, .unset] [(.int (p4 &&& (2 : Int32)))])) (fun tgt cont => ?_) ?_
    · refine XS.istore X3.here hx rfl (hb hby at_36) rfl (l' := #[.val (.long p1), .second, .val (.int p2), .val (.int p3), .val (.int p4), .val (.long v2), .second, .val (.int r4), .unset, .unset, .unset, .unset, .unset, .unset]) rfl ?_
      refine XS.iload X3.here hx rfl (hb hby at_38) rfl ?_
      refine XT.iconstV X3.here hx rfl (2 : Int32) (hb hby at_40) rfl ?_
      refine XS.iand X3.here hx rfl (hb hby at_41) rfl ?_
      exact cont
    have K5 : ∀ (T5 : State) (L5 : List Loc) (v6 : Int32) (X5 : Stand p l e room_1 s m #[(.long p1), (.int p2), (.int p3), (.int p4)] below meth c T5 L5 0 0) (e5 : T5.heap = h0) (N5 : Fr n0 L5) (hv6 : v6 = (if (p4 &&& (2 : Int32)) = 0 then ((own_maxI (1 : Int32) (p3 &&& (2147483647 : Int32)))) else (1 : Int32))), own_Go p e below s (Q0 n0) room_1.cells room_1.slots (T5.setTop (mkF m 57 #[.val (.long p1), .second, .val (.int p2), .val (.int p3), .val (.int p4), .val (.long v2), .second, .val (.int r4), .unset, .unset, .unset, .unset, .unset, .unset] [(.int v6)])) := by
      intro T5 L5 v6 X5 e5 N5 hv6
      refine own_go (B := T5.setTop (mkF m 59 #[.val (.long p1), .second, .val (.int p2), .val (.int p3), .val (.int p4), .val (.long v2), .second, .val (.int r4), .val (.int v6), .unset, .unset, .unset, .unset, .unset] [])) (fun tgt cont => ?_) ?_
      · refine XS.istore X5.here hx rfl (hb hby at_57) rfl (l' := #[.val (.long p1), .second, .val (.int p2), .val (.int p3), .val (.int p4), .val (.long v2), .second, .val (.int r4), .val (.int v6), .unset, .unset, .unset, .unset, .unset]) rfl ?_
        exact cont
      obtain ⟨T7, h7, X7, e7, E7, A7, D7, -, st7⟩ := newO X5 hx hZ hown (hw _ (List.mem_of_getElem? (i := 9) rfl)) (hw _ (List.mem_of_getElem? (i := 10) rfl)) (hw _ (List.mem_of_getElem? (i := 11) rfl)) e5 (g := (mkF m 59 #[.val (.long p1), .second, .val (.int p2), .val (.int p3), .val (.int p4), .val (.long v2), .second, .val (.int r4), .val (.int v6), .unset, .unset, .unset, .unset, .unset] [])) rfl (hb hby at_59) (by decide) (by decide)
      obtain ⟨b7, g7⟩ : ∃ z, z = h0.size := ⟨_, rfl⟩
      rw [← g7] at A7 D7 st7
      have g_b7 : n0 ≤ b7 := Nat.le_trans Z0 (Nat.le_of_eq g7.symm)
      have sz_b7 : h0.size ≤ b7 := Nat.le_trans (Keep.refl h0 []).1 (Nat.le_of_eq g7.symm)
      have kk7 : Keep h0 h7 [] := (Keep.refl h0 []).ext E7
      have zp7 : n0 ≤ h7.size := Nat.le_trans Z0 kk7.1
      have F_intervalMs_b7 : Fld Z h7 b7 "com/example/keyfold/keyfold/CommitSchedule" "intervalMs" "J" (.long (0 : Int64)) := D7 (Or.inr (hw _ (List.mem_of_getElem? (i := 19) rfl))) (ty := .long) (by decide)
      have F_quarterMs_b7 : Fld Z h7 b7 "com/example/keyfold/keyfold/CommitSchedule" "quarterMs" "J" (.long (0 : Int64)) := D7 (Or.inr (hw _ (List.mem_of_getElem? (i := 22) rfl))) (ty := .long) (by decide)
      have F_committers_b7 : Fld Z h7 b7 "com/example/keyfold/keyfold/CommitSchedule" "committers" "I" (.int (0 : Int32)) := D7 (Or.inr (hw _ (List.mem_of_getElem? (i := 24) rfl))) (ty := .int) (by decide)
      have F_oneTask_b7 : Fld Z h7 b7 "com/example/keyfold/keyfold/CommitSchedule" "oneTask" "Z" (.int (0 : Int32)) := D7 (Or.inr (hw _ (List.mem_of_getElem? (i := 26) rfl))) (ty := .boolean) (by decide)
      have F_firstCommitMs_b7 : Fld Z h7 b7 "com/example/keyfold/keyfold/CommitSchedule" "firstCommitMs" "J" (.long (0 : Int64)) := D7 (Or.inr (hw _ (List.mem_of_getElem? (i := 28) rfl))) (ty := .long) (by decide)
      have F_standInStepMs_b7 : Fld Z h7 b7 "com/example/keyfold/keyfold/CommitSchedule" "standInStepMs" "J" (.long (0 : Int64)) := D7 (Or.inr (hw _ (List.mem_of_getElem? (i := 31) rfl))) (ty := .long) (by decide)
      refine own_go (fun tgt cont => st7 tgt cont) ?_
      show own_Go p e below s (Q0 n0) room_1.cells room_1.slots (T7.setTop (mkF m 62 #[.val (.long p1), .second, .val (.int p2), .val (.int p3), .val (.int p4), .val (.long v2), .second, .val (.int r4), .val (.int v6), .unset, .unset, .unset, .unset, .unset] [(.ref b7)]))
      refine own_go (B := T7.setTop (mkF m 69 #[.val (.long p1), .second, .val (.int p2), .val (.int p3), .val (.int p4), .val (.long v2), .second, .val (.int r4), .val (.int v6), .unset, .unset, .unset, .unset, .unset] [(.int v6), (.int r4), (.long v2), (.ref b7), (.ref b7)])) (fun tgt cont => ?_) ?_
      · refine XS.dup X7.here hx rfl (hb hby at_62) rfl rfl ?_
        refine XS.lload X7.here hx rfl (hb hby at_63) rfl ?_
        refine XS.iload X7.here hx rfl (hb hby at_65) rfl ?_
        refine XS.iload X7.here hx rfl (hb hby at_67) rfl ?_
        exact cont
      -- pc 69: CommitSchedule.<init>
      obtain ⟨_, _, ⟨T8, L8, k8, n8⟩, -, X8, ⟨Lc8, hQ8, l8, y8, z8⟩, st8⟩ := X7.specialBack hx (y := (⟨"com/example/keyfold/keyfold/CommitSchedule", "<init>", "(JII)V"⟩ : MethodName)) rfl hown (mvT hZ (hw _ (List.mem_of_getElem? (i := 12) rfl))) (mvT hZ (hw _ (List.mem_of_getElem? (i := 13) rfl))) (mvT hZ (hw _ (List.mem_of_getElem? (i := 14) rfl))) (by decide) (backOf (W := 1) (rm3 l Z a0 hw [] b7 v2 r4 v6 (0 : Int64) (0 : Int64) (0 : Int32) (0 : Int32) (0 : Int64) (0 : Int64) h7 n0 zp7 A7 F_intervalMs_b7 F_quarterMs_b7 F_committers_b7 F_oneTask_b7 F_firstCommitMs_b7 F_standInStepMs_b7 g_b7) hZ (hw _ (List.mem_of_getElem? (i := 14) rfl)) (hw _ (List.mem_of_getElem? (i := 11) rfl)) (by decide) (by decide)) (g := (mkF m 69 #[.val (.long p1), .second, .val (.int p2), .val (.int p3), .val (.int p4), .val (.long v2), .second, .val (.int r4), .val (.int v6), .unset, .unset, .unset, .unset, .unset] [(.int v6), (.int r4), (.long v2), (.ref b7), (.ref b7)])) rfl (by rw [hml]; rfl) (Steps.refl _) (a := b7) (argsL := [(.long v2), (.int r4), (.int v6)]) (rest := [(.ref b7)]) (lenOf own_pd2 rfl) rfl (by show 2 * 0 + _ ≤ _; exact Nat.le_of_eq rfl) (hb hby at_69) (fun _ _ => ⟨rfl, e7, (by decide : 0 + 1 + 0 ≤ _), (by decide : 0 + 6 + 0 ≤ _)⟩)
      dsimp only [Pt.U, Pt.locs, Pt.cells, Pt.slots] at X8 l8 y8 z8 st8 hQ8
      subst l8 y8 z8
      obtain ⟨rfl, N8q, K8, ex8_0, fa8_0, fa8_1, fa8_2, fa8_3, fa8_4, fa8_5⟩ := hQ8
      have N8 := Fr.app N5 N8q
      have kk8 : Keep h0 T8.heap [] := kk7.trans K8 (allS (Or.inr sz_b7) all0)
      have zp8 : n0 ≤ T8.heap.size := Nat.le_trans Z0 kk8.1
      generalize hw9 : (own_init_quarterMs v2) = w9 at fa8_1
      generalize hw10 : (own_init_oneTask v6) = w10 at fa8_3
      generalize hw11 : (own_init_firstCommitMs v2 v6) = w11 at fa8_4
      generalize hw12 : (own_init_standInStepMs v2 r4) = w12 at fa8_5
      refine own_go (fun tgt cont => st8.trans cont) ?_
      show own_Go p e below s (Q0 n0) room_1.cells room_1.slots (T8.setTop (mkF m 72 #[.val (.long p1), .second, .val (.int p2), .val (.int p3), .val (.int p4), .val (.long v2), .second, .val (.int r4), .val (.int v6), .unset, .unset, .unset, .unset, .unset] [(.ref b7)]))
      refine own_go (B := T8.setTop (mkF m 76 #[.val (.long p1), .second, .val (.int p2), .val (.int p3), .val (.int p4), .val (.long v2), .second, .val (.int r4), .val (.int v6), .val (.ref b7), .unset, .unset, .unset, .unset] [(.ref b7)])) (fun tgt cont => ?_) ?_
      · refine XS.astore X8.here hx rfl (hb hby at_72) rfl rfl (l' := #[.val (.long p1), .second, .val (.int p2), .val (.int p3), .val (.int p4), .val (.long v2), .second, .val (.int r4), .val (.int v6), .val (.ref b7), .unset, .unset, .unset, .unset]) rfl ?_
        refine XS.aload X8.here hx rfl (hb hby at_74) rfl rfl ?_
        exact cont
      -- pc 76: CommitSchedule.unwrittenRowsMs
      obtain ⟨cq13, kq13, qa13, qb13, qc13⟩ := isOf hZ rfl ex8_0
      obtain ⟨_, _, ⟨T13, L13, k13, n13⟩, -, X13, ⟨Lc13, hQ13, l13, y13, z13⟩, st13⟩ := X8.virtualBack hx (y := (⟨"com/example/keyfold/keyfold/CommitSchedule", "unwrittenRowsMs", "()J"⟩ : MethodName)) (z := (⟨"com/example/keyfold/keyfold/CommitSchedule", "unwrittenRowsMs", "()J"⟩ : MethodName)) hown (mvT hZ (hw _ (List.mem_of_getElem? (i := 32) rfl))) (mvT hZ (hw _ (List.mem_of_getElem? (i := 33) rfl))) (notFace_of_selects (args := #[]) (mvT hZ (hw _ (List.mem_of_getElem? (i := 35) rfl)))) (mvT hZ (hw _ (List.mem_of_getElem? (i := 35) rfl))) (mvT hZ (hw _ (List.mem_of_getElem? (i := 34) rfl))) (by decide) (backOf (W := 0) (rm5 l Z a0 hw [] b7 v2 w10 T8.heap n0 zp8 ex8_0 fa8_0 fa8_3) hZ (hw _ (List.mem_of_getElem? (i := 36) rfl)) (hw _ (List.mem_of_getElem? (i := 11) rfl)) (by decide) (by decide)) qa13 qc13 (g := (mkF m 76 #[.val (.long p1), .second, .val (.int p2), .val (.int p3), .val (.int p4), .val (.long v2), .second, .val (.int r4), .val (.int v6), .val (.ref b7), .unset, .unset, .unset, .unset] [(.ref b7)])) rfl (by rw [hml]; rfl) (Steps.refl _) (argsL := []) (rest := []) (lenOf own_pd3 rfl) rfl (by show 2 * 0 + _ ≤ _; exact Nat.le_of_eq rfl) (hb hby at_76) (fun _ _ => ⟨rfl, rfl, (by decide : 0 + 1 + 0 + 0 ≤ _), (by decide : 0 + 6 + 0 + 0 ≤ _)⟩)
      dsimp only [Pt.U, Pt.locs, Pt.cells, Pt.slots] at X13 l13 y13 z13 st13 hQ13
      subst l13 y13 z13
      obtain ⟨rfl, N13q, e13⟩ := hQ13
      have N13 := Fr.app N8 N13q
      refine own_go (fun tgt cont => st13.trans cont) ?_
      show own_Go p e below s (Q0 n0) room_1.cells room_1.slots (T13.setTop (mkF m 79 #[.val (.long p1), .second, .val (.int p2), .val (.int p3), .val (.int p4), .val (.long v2), .second, .val (.int r4), .val (.int v6), .val (.ref b7), .unset, .unset, .unset, .unset] [(.long (own_un_r v2 w10))]))
      generalize hr14 : (own_un_r v2 w10) = r14
      refine own_go (B := T13.setTop (mkF m 84 #[.val (.long p1), .second, .val (.int p2), .val (.int p3), .val (.int p4), .val (.long v2), .second, .val (.int r4), .val (.int v6), .val (.ref b7), .val (.long r14), .second, .unset, .unset] [(.int (1 : Int32)), (.int v6)])) (fun tgt cont => ?_) ?_
      · refine XS.lstore X13.here hx rfl (hb hby at_79) rfl (l' := #[.val (.long p1), .second, .val (.int p2), .val (.int p3), .val (.int p4), .val (.long v2), .second, .val (.int r4), .val (.int v6), .val (.ref b7), .val (.long r14), .second, .unset, .unset]) rfl ?_
        refine XS.iload X13.here hx rfl (hb hby at_81) rfl ?_
        refine XT.iconstV X13.here hx rfl (1 : Int32) (hb hby at_83) rfl ?_
        exact cont
      by_cases hc15 : v6 = (1 : Int32)
      ·
        refine own_go (B := T13.setTop (mkF m 101 #[.val (.long p1), .second, .val (.int p2), .val (.int p3), .val (.int p4), .val (.long v2), .second, .val (.int r4), .val (.int v6), .val (.ref b7), .val (.long r14), .second, .unset, .unset] [(.int (1 : Int32))])) (fun tgt cont => ?_) ?_
        · refine XS.icmpNo X13.here hx rfl (hb hby at_84) rfl (XT.ii_ne_f hc15) ?_
          refine XS.lload X13.here hx rfl (hb hby at_87) rfl ?_
          refine Stand.ldc2J X13 hx hown (mvT hZ (hw _ (List.mem_of_getElem? (i := 0) rfl))) rfl (hb hby at_89) ?_
          refine XT.lcmp X13.here hx rfl (hb hby at_92) rfl ?_
          refine XS.ifNo X13.here hx rfl (hb hby at_93) rfl (XT.ll_ne_f (by subst hr14 hw10; exact own_eq1 v2 v6 hc15 (by subst hv2; exact own_eq0 p4 p1 ))) ?_
          refine XT.iconstV X13.here hx rfl (1 : Int32) (hb hby at_96) rfl ?_
          refine XS.goto X13.here hx rfl (pc0 := 97) (pc' := 101) rfl (hb hby at_97) (by decide) (by decide) ?_
          exact cont
        refine own_end X13 (v := some (.int (1 : Int32))) (fun h => by rw [Bd.returns] at h; cases h) hlk ?_ (by decide) (by decide) (fun fs hl => retN X13 hx (t := .boolean) Bd.returns (by simp) (hb hby at_101) hl)
        exact ⟨rfl, N13⟩
      ·
        refine own_go (B := T13.setTop (mkF m 108 #[.val (.long p1), .second, .val (.int p2), .val (.int p3), .val (.int p4), .val (.long v2), .second, .val (.int r4), .val (.int v6), .val (.ref b7), .val (.long r14), .second, .unset, .unset] [(.int (XT.cmpL v2 (16 : Int64)))])) (fun tgt cont => ?_) ?_
        · refine XS.icmpYes X13.here hx rfl (pc0 := 84) (pc' := 102) rfl (hb hby at_84) rfl (XT.ii_ne_t hc15) (by decide) (by decide) ?_
          refine XS.lload X13.here hx rfl (hb hby at_102) rfl ?_
          refine Stand.ldc2J X13 hx hown (mvT hZ (hw _ (List.mem_of_getElem? (i := 41) rfl))) rfl (hb hby at_104) ?_
          refine XT.lcmp X13.here hx rfl (hb hby at_107) rfl ?_
          exact cont
        by_cases hc16 : v2 < (16 : Int64)
        ·
          refine own_go (B := T13.setTop (mkF m 123 #[.val (.long p1), .second, .val (.int p2), .val (.int p3), .val (.int p4), .val (.long v2), .second, .val (.int r4), .val (.int v6), .val (.ref b7), .val (.long r14), .second, .unset, .unset] [(.int (1 : Int32))])) (fun tgt cont => ?_) ?_
          · refine XS.ifNo X13.here hx rfl (hb hby at_108) rfl (XT.ll_ge_f hc16) ?_
            refine XS.lload X13.here hx rfl (hb hby at_111) rfl ?_
            refine XT.lconstV X13.here hx rfl (1 : Int64) (hb hby at_113) rfl ?_
            refine XT.lcmp X13.here hx rfl (hb hby at_114) rfl ?_
            refine XS.ifNo X13.here hx rfl (hb hby at_115) rfl (XT.ll_ne_f (by subst hr14 hw10; exact own_eq2 v2 v6 hc15 hc16 (by subst hv2; exact own_eq0 p4 p1 ))) ?_
            refine XT.iconstV X13.here hx rfl (1 : Int32) (hb hby at_118) rfl ?_
            refine XS.goto X13.here hx rfl (pc0 := 119) (pc' := 123) rfl (hb hby at_119) (by decide) (by decide) ?_
            exact cont
          refine own_end X13 (v := some (.int (1 : Int32))) (fun h => by rw [Bd.returns] at h; cases h) hlk ?_ (by decide) (by decide) (fun fs hl => retN X13 hx (t := .boolean) Bd.returns (by simp) (hb hby at_123) hl)
          exact ⟨rfl, N13⟩
        ·
          refine own_go (B := T13.setTop (mkF m 144 #[.val (.long p1), .second, .val (.int p2), .val (.int p3), .val (.int p4), .val (.long v2), .second, .val (.int r4), .val (.int v6), .val (.ref b7), .val (.long r14), .second, .unset, .unset] [(.long v2)])) (fun tgt cont => ?_) ?_
          · refine XS.ifYes X13.here hx rfl (pc0 := 108) (pc' := 124) rfl (hb hby at_108) rfl (XT.ll_ge_t hc16) (by decide) (by decide) ?_
            refine XS.lload X13.here hx rfl (hb hby at_124) rfl ?_
            refine XT.lconstV X13.here hx rfl (1 : Int64) (hb hby at_126) rfl ?_
            refine XT.lcmp X13.here hx rfl (hb hby at_127) rfl ?_
            refine XS.ifNo X13.here hx rfl (hb hby at_128) rfl (XT.ll_lt_f (by subst hr14 hw10; exact own_eq3 v2 v6 hc15 hc16 (by subst hv2; exact own_eq0 p4 p1 ))) ?_
            refine XS.lload X13.here hx rfl (hb hby at_131) rfl ?_
            refine Stand.ldc2J X13 hx hown (mvT hZ (hw _ (List.mem_of_getElem? (i := 42) rfl))) rfl (hb hby at_133) ?_
            refine XT.lcmp X13.here hx rfl (hb hby at_136) rfl ?_
            refine XS.ifYes X13.here hx rfl (pc0 := 137) (pc' := 142) rfl (hb hby at_137) rfl (XT.ll_le_t (by subst hr14 hw10; exact own_eq4 v2 v6 hc15 hc16 (by subst hv2; exact own_eq0 p4 p1 ))) (by decide) (by decide) ?_
            refine XS.lload X13.here hx rfl (hb hby at_142) rfl ?_
            exact cont
          refine own_go (B := T13.setTop (mkF m 151 #[.val (.long p1), .second, .val (.int p2), .val (.int p3), .val (.int p4), .val (.long v2), .second, .val (.int r4), .val (.int v6), .val (.ref b7), .val (.long r14), .second, .unset, .unset] [(.long (v2 - ((16 : Int64) * r14)))])) (fun tgt cont => ?_) ?_
          · refine Stand.ldc2J X13 hx hown (mvT hZ (hw _ (List.mem_of_getElem? (i := 41) rfl))) rfl (hb hby at_144) ?_
            refine XS.lload X13.here hx rfl (hb hby at_147) rfl ?_
            refine XS.lmul X13.here hx rfl (hb hby at_149) rfl ?_
            refine XS.lsub X13.here hx rfl (hb hby at_150) rfl ?_
            exact cont
          generalize hv17 : (v2 - ((16 : Int64) * r14)) = v17
          refine own_go (B := T13.setTop (mkF m 170 #[.val (.long p1), .second, .val (.int p2), .val (.int p3), .val (.int p4), .val (.long v2), .second, .val (.int r4), .val (.int v6), .val (.ref b7), .val (.long r14), .second, .val (.long v17), .second] [(.int (1 : Int32))])) (fun tgt cont => ?_) ?_
          · refine XS.lstore X13.here hx rfl (hb hby at_151) rfl (l' := #[.val (.long p1), .second, .val (.int p2), .val (.int p3), .val (.int p4), .val (.long v2), .second, .val (.int r4), .val (.int v6), .val (.ref b7), .val (.long r14), .second, .val (.long v17), .second]) rfl ?_
            refine XS.lload X13.here hx rfl (hb hby at_153) rfl ?_
            refine XT.lconstV X13.here hx rfl (0 : Int64) (hb hby at_155) rfl ?_
            refine XT.lcmp X13.here hx rfl (hb hby at_156) rfl ?_
            refine XS.ifNo X13.here hx rfl (hb hby at_157) rfl (XT.ll_lt_f (by subst hv17 hr14 hw10; exact own_eq5 v2 v6 hc15 hc16 (by subst hv2; exact own_eq0 p4 p1 ))) ?_
            refine XS.lload X13.here hx rfl (hb hby at_160) rfl ?_
            refine Stand.ldc2J X13 hx hown (mvT hZ (hw _ (List.mem_of_getElem? (i := 41) rfl))) rfl (hb hby at_162) ?_
            refine XT.lcmp X13.here hx rfl (hb hby at_165) rfl ?_
            refine XS.ifNo X13.here hx rfl (hb hby at_166) rfl (XT.ll_ge_f (by subst hv17 hr14 hw10; exact own_eq6 v2 v6 hc15 hc16 (by subst hv2; exact own_eq0 p4 p1 ))) ?_
            refine XT.iconstV X13.here hx rfl (1 : Int32) (hb hby at_169) rfl ?_
            exact cont
          refine own_go (B := T13.setTop (mkF m 174 #[.val (.long p1), .second, .val (.int p2), .val (.int p3), .val (.int p4), .val (.long v2), .second, .val (.int r4), .val (.int v6), .val (.ref b7), .val (.long r14), .second, .val (.long v17), .second] [(.int (1 : Int32))])) (fun tgt cont => ?_) ?_
          · refine XS.goto X13.here hx rfl (pc0 := 170) (pc' := 174) rfl (hb hby at_170) (by decide) (by decide) ?_
            exact cont
          refine own_end X13 (v := some (.int (1 : Int32))) (fun h => by rw [Bd.returns] at h; cases h) hlk ?_ (by decide) (by decide) (fun fs hl => retN X13 hx (t := .boolean) Bd.returns (by simp) (hb hby at_174) hl)
          exact ⟨rfl, N13⟩
    by_cases hc18 : (p4 &&& (2 : Int32)) = 0
    ·
      refine own_go (B := T3.setTop (mkF m 54 #[.val (.long p1), .second, .val (.int p2), .val (.int p3), .val (.int p4), .val (.long v2), .second, .val (.int r4), .unset, .unset, .unset, .unset, .unset, .unset] [(.int (p3 &&& (2147483647 : Int32))), (.int (1 : Int32))])) (fun tgt cont => ?_) ?_
      · refine XS.ifYes X3.here hx rfl (pc0 := 42) (pc' := 49) rfl (hb hby at_42) rfl (XT.i0_eq_t hc18) (by decide) (by decide) ?_
        refine XT.iconstV X3.here hx rfl (1 : Int32) (hb hby at_49) rfl ?_
        refine XS.iloadN X3.here hx rfl (hb hby at_50) rfl ?_
        refine Stand.ldcI X3 hx hown (mvT hZ (hw _ (List.mem_of_getElem? (i := 5) rfl))) rfl (hb hby at_51) ?_
        refine XS.iand X3.here hx rfl (hb hby at_53) rfl ?_
        exact cont
      -- pc 54: Math.max
      obtain ⟨_, _, ⟨T19, L19, k19, n19⟩, -, X19, ⟨Lc19, hQ19, l19, y19, z19⟩, st19⟩ := Jvm.LawKit.callS X3 hx (y := (⟨"java/lang/Math", "max", "(II)I"⟩ : MethodName)) hown (mvT hZ (hw _ (List.mem_of_getElem? (i := 6) rfl))) (mvT hZ (hw _ (List.mem_of_getElem? (i := 7) rfl))) (mvT hZ (hw _ (List.mem_of_getElem? (i := 3) rfl))) (mvT hZ (hw _ (List.mem_of_getElem? (i := 8) rfl))) (by decide) (backOf (W := 0) (rm2 l Z a0 hw [] (1 : Int32) (p3 &&& (2147483647 : Int32)) h0 n0 Z0 ) hZ (hw _ (List.mem_of_getElem? (i := 8) rfl)) (hw _ (List.mem_of_getElem? (i := 3) rfl)) (by decide) (by decide)) (g := (mkF m 54 #[.val (.long p1), .second, .val (.int p2), .val (.int p3), .val (.int p4), .val (.long v2), .second, .val (.int r4), .unset, .unset, .unset, .unset, .unset, .unset] [(.int (p3 &&& (2147483647 : Int32))), (.int (1 : Int32))])) rfl (by rw [hml]; rfl) (argsL := [(.int (1 : Int32)), (.int (p3 &&& (2147483647 : Int32)))]) (rest := []) (lenOf own_pd1 rfl) rfl (by show 2 * 0 + _ ≤ _; exact Nat.le_of_eq rfl) (hb hby at_54) (fun _ _ => ⟨rfl, e3, (by decide : 0 + 0 + 0 ≤ _), (by decide : 0 + 0 + 0 ≤ _)⟩)
      dsimp only [Pt.U, Pt.locs, Pt.cells, Pt.slots] at X19 l19 y19 z19 st19 hQ19
      subst l19 y19 z19
      obtain ⟨rfl, N19q, e19⟩ := hQ19
      have N19 := Fr.app N3 N19q
      refine own_go (fun tgt cont => st19 tgt cont) ?_
      show own_Go p e below s (Q0 n0) room_1.cells room_1.slots (T19.setTop (mkF m 57 #[.val (.long p1), .second, .val (.int p2), .val (.int p3), .val (.int p4), .val (.long v2), .second, .val (.int r4), .unset, .unset, .unset, .unset, .unset, .unset] [(.int (own_maxI (1 : Int32) (p3 &&& (2147483647 : Int32))))]))
      generalize hr20 : (own_maxI (1 : Int32) (p3 &&& (2147483647 : Int32))) = r20
      exact K5 _ _ r20 (own_wide X19 (by decide) (by decide)) e19 N19 (by subst hr20; simp only [if_pos hc18])
    ·
      refine own_go (B := T3.setTop (mkF m 57 #[.val (.long p1), .second, .val (.int p2), .val (.int p3), .val (.int p4), .val (.long v2), .second, .val (.int r4), .unset, .unset, .unset, .unset, .unset, .unset] [(.int (1 : Int32))])) (fun tgt cont => ?_) ?_
      · refine XS.ifNo X3.here hx rfl (hb hby at_42) rfl (XT.i0_eq_f hc18) ?_
        refine XT.iconstV X3.here hx rfl (1 : Int32) (hb hby at_45) rfl ?_
        refine XS.goto X3.here hx rfl (pc0 := 46) (pc' := 57) rfl (hb hby at_46) (by decide) (by decide) ?_
        exact cont
      exact K5 _ _ (1 : Int32) (own_wide X3 (by decide) (by decide)) e3 N3 (by simp only [if_neg hc18])
  by_cases hc21 : (p4 &&& (1 : Int32)) = 0
  ·
    refine own_go (B := s₁.setTop (mkF m 23 #[.val (.long p1), .second, .val (.int p2), .val (.int p3), .val (.int p4), .unset, .unset, .unset, .unset, .unset, .unset, .unset, .unset, .unset] [(.long (p1 &&& (9223372036854775807 : Int64))), (.long (1 : Int64))])) (fun tgt cont => ?_) ?_
    · refine XS.ifYes X0.here hx rfl (pc0 := 4) (pc' := 17) rfl (hb hby at_4) rfl (XT.i0_eq_t hc21) (by decide) (by decide) ?_
      refine XT.lconstV X0.here hx rfl (1 : Int64) (hb hby at_17) rfl ?_
      refine XS.lloadN X0.here hx rfl (hb hby at_18) rfl ?_
      refine Stand.ldc2J X0 hx hown (mvT hZ (hw _ (List.mem_of_getElem? (i := 0) rfl))) rfl (hb hby at_19) ?_
      refine XS.land X0.here hx rfl (hb hby at_22) rfl ?_
      exact cont
    -- pc 23: Math.max
    obtain ⟨_, _, ⟨T22, L22, k22, n22⟩, -, X22, ⟨Lc22, hQ22, l22, y22, z22⟩, st22⟩ := Jvm.LawKit.callS X0 hx (y := (⟨"java/lang/Math", "max", "(JJ)J"⟩ : MethodName)) hown (mvT hZ (hw _ (List.mem_of_getElem? (i := 1) rfl))) (mvT hZ (hw _ (List.mem_of_getElem? (i := 2) rfl))) (mvT hZ (hw _ (List.mem_of_getElem? (i := 3) rfl))) (mvT hZ (hw _ (List.mem_of_getElem? (i := 4) rfl))) (by decide) (backOf (W := 0) (rm1 l Z a0 hw [] (1 : Int64) (p1 &&& (9223372036854775807 : Int64)) h0 n0 Z0 ) hZ (hw _ (List.mem_of_getElem? (i := 4) rfl)) (hw _ (List.mem_of_getElem? (i := 3) rfl)) (by decide) (by decide)) (g := (mkF m 23 #[.val (.long p1), .second, .val (.int p2), .val (.int p3), .val (.int p4), .unset, .unset, .unset, .unset, .unset, .unset, .unset, .unset, .unset] [(.long (p1 &&& (9223372036854775807 : Int64))), (.long (1 : Int64))])) rfl (by rw [hml]; rfl) (argsL := [(.long (1 : Int64)), (.long (p1 &&& (9223372036854775807 : Int64)))]) (rest := []) (lenOf own_pd0 rfl) rfl (by show 2 * 0 + _ ≤ _; exact Nat.le_of_eq rfl) (hb hby at_23) (fun _ _ => ⟨rfl, e0, (by decide : 0 + 0 ≤ _), (by decide : 0 + 0 ≤ _)⟩)
    dsimp only [Pt.U, Pt.locs, Pt.cells, Pt.slots] at X22 l22 y22 z22 st22 hQ22
    subst l22 y22 z22
    obtain ⟨rfl, N22q, e22⟩ := hQ22
    have N22 := Fr.app N0 N22q
    refine own_go (fun tgt cont => st22 tgt cont) ?_
    show own_Go p e below s (Q0 n0) room_1.cells room_1.slots (T22.setTop (mkF m 26 #[.val (.long p1), .second, .val (.int p2), .val (.int p3), .val (.int p4), .unset, .unset, .unset, .unset, .unset, .unset, .unset, .unset, .unset] [(.long (own_max (1 : Int64) (p1 &&& (9223372036854775807 : Int64))))]))
    generalize hr23 : (own_max (1 : Int64) (p1 &&& (9223372036854775807 : Int64))) = r23
    exact K1 _ _ r23 (own_wide X22 (by decide) (by decide)) e22 N22 (by subst hr23; simp only [if_pos hc21])
  ·
    refine own_go (B := s₁.setTop (mkF m 26 #[.val (.long p1), .second, .val (.int p2), .val (.int p3), .val (.int p4), .unset, .unset, .unset, .unset, .unset, .unset, .unset, .unset, .unset] [(.long ((p1 &&& (31 : Int64)) + (1 : Int64)))])) (fun tgt cont => ?_) ?_
    · refine XS.ifNo X0.here hx rfl (hb hby at_4) rfl (XT.i0_eq_f hc21) ?_
      refine XS.lloadN X0.here hx rfl (hb hby at_7) rfl ?_
      refine Stand.ldc2J X0 hx hown (mvT hZ (hw _ (List.mem_of_getElem? (i := 38) rfl))) rfl (hb hby at_8) ?_
      refine XS.land X0.here hx rfl (hb hby at_11) rfl ?_
      refine XT.lconstV X0.here hx rfl (1 : Int64) (hb hby at_12) rfl ?_
      refine XS.ladd X0.here hx rfl (hb hby at_13) rfl ?_
      refine XS.goto X0.here hx rfl (pc0 := 14) (pc' := 26) rfl (hb hby at_14) (by decide) (by decide) ?_
      exact cont
    exact K1 _ _ ((p1 &&& (31 : Int64)) + (1 : Int64)) (own_wide X0 (by decide) (by decide)) e0 N0 (by simp only [if_neg hc21])
set_option maxRecDepth 65536 in
set_option maxHeartbeats 40000000 in
theorem comes_1 {Post : Tables → Env → Array Value → State → Outcome → State → Prop} (hpost : ∀ tb e args s v u, (limb_1_1.after args s (.returned v) u = true ∧ limb_1_2.after args s (.returned v) u = true ∧ True) → FrameEnd s (.returned v) u (Jvm.fieldLocs frame_1_writes args s ++ Jvm.arrayLocs frame_1_arrays args s ++ Jvm.staticLocs frame_1_statics s) 16 128 → Post tb e args s (.returned v) u) :
    ArmFor flags0 classFile x code maxLocals ret World_1 tables_1 room_1 Calls_1 rest_1 Pre_1 Post := by
  intro l hfl _ _ p e ha hc hk s m args below hf hA hF happ hP
  obtain ⟨hcalls, hrest, hpre⟩ := hP
  obtain ⟨-, -, -, hnamed, -, -, -, hat⟩ := (Spec.applies_iff hf).mp happ
  obtain ⟨hg, hn⟩ := and_e (Cond.before_iff.mp (show (Jvm.Cond.and given_1 narrow_1).before args s = true from hpre))
  obtain ⟨g0, gr0⟩ := and_e hg
  obtain ⟨ga0, gr1⟩ := and_e gr0
  obtain ⟨ga1, gr2⟩ := and_e gr1
  obtain ⟨ga2, gr3⟩ := and_e gr2
  obtain ⟨w0, w1, w2, w3, rfl⟩ : ∃ w0 w1 w2 w3 : Value, args = #[w0, w1, w2, w3] := by
    have hs : args.size = 4 := by simpa [Cond.value, given_1] using g0
    obtain ⟨L⟩ := args
    match L, hs with
    | [w0, w1, w2, w3], _ => exact ⟨w0, w1, w2, w3, rfl⟩
  have hw := fun d (hd : d ∈ tables_1) => atoms_spec (ws := Jvm.Cond.code x code maxLocals ret :: tables_1) hat d (List.mem_cons_of_mem _ hd)
  obtain ⟨i0, ei0⟩ := isL_v ga0
  obtain rfl : w0 = (.long i0) := Option.some.inj ei0
  obtain ⟨i1, ei1⟩ := is_v ga1
  obtain rfl : w1 = (.int i1) := Option.some.inj ei1
  obtain ⟨i2, ei2⟩ := is_v ga2
  obtain rfl : w2 = (.int i2) := Option.some.inj ei2
  obtain ⟨i3, ei3⟩ := is_v gr3
  obtain rfl : w3 = (.int i3) := Option.some.inj ei3
  obtain ⟨n, o, h1, h2, h3, _, L, rfl, ⟨rfl, N⟩, hq⟩ := rm0 l s _ hw tables_1 i0 i1 i2 i3 s.heap s.heap.size (Nat.le_refl _) p e ha hc hk s m _ below hf ((Spec.applies_iff_loose hf).mp happ).1 ⟨rfl, State.Warmed39.refl s, rfl⟩ trivial
  refine ⟨n, _, h1, h2, h3, hpost _ _ _ _ _ _ ⟨Cond.after_iff.mpr rfl, Cond.after_iff.mpr (eq_i res_at (Term.int_eval (1)) rfl), trivial⟩ ⟨hq.1, hq.2.1, (hq.2.2.sift fun y hy => Or.inr (N y hy)).mono (by decide) (by decide)⟩⟩
theorem main_1_1 : Claimed_1_1 := comes_1 fun _ _ _ _ _ _ h hF => ⟨h.1, hF⟩
theorem main_1_2 : Claimed_1_2 := comes_1 fun _ _ _ _ _ _ h hF => ⟨h.2.1, hF⟩
end Jvm.Pilot.@@N@@
namespace Jvm.Pilot.@@N@@
open Jvm Jvm.ClassFile Sem Op Lib Jvm.Free Jvm.Stand Jvm.Pilot.@@N@@.Jvm.D
/-! MADE BY PROGRAM (witnessworld.py) out of the Statement's table words and the real class files: 10 classes; the members and pool entries that the words name. The judged class is class 1, her method 1. -/
namespace start1
open Jvm.ClassFile
def u (s : String) : CpInfo := .utf8 (stringToUtf16 s)
/-- a pool by its gaps: so many unusable entries, then the entry; so many at the end -/
def gap : Nat → List CpInfo → List CpInfo
  | 0, r => r
  | n + 1, r => .unusable :: gap n r
def poolList (es : List (Nat × CpInfo)) (last : Nat) : List CpInfo := es.foldr (fun e r => gap e.1 (e.2 :: r)) (gap last [])
def pool (es : List (Nat × CpInfo)) (last : Nat) : Array CpInfo := ⟨poolList es last⟩
def fileOf (pool : Array CpInfo) (this : Nat) (attrs : Array Attribute := #[]) (ms : Array MethodInfo := #[]) (fl : Nat := 33) (sup : Nat := 0) (ifs : Array Nat := #[]) (fds : Array FieldInfo := #[]) : ClassFile where
  minorVersion := 0
  majorVersion := 65
  constantPool := pool
  accessFlags := fl
  thisClass := this
  superClass := sup
  interfaces := ifs
  fields := fds
  methods := ms
  attributes := attrs
def plain (name : String) (sup : Option ClassId) : Class where
  name := name
  kind := .ordinary
  loader := none
  accessFlags := 33
  super := sup
  interfaces := #[]
  cf := none
  fields := #[]
  methods := #[]
  instanceTypes := #[]
  staticTypes := #[]
  resolved := #[]
  callSites := []
  init := .initialized
  statics := none
  mirror := none

def pool0 : Array CpInfo := pool [(5, u "<init>"), (0, u "()V"), (1, .class_ 10), (1, u "java/lang/Object")] 113

def k0c0 : Code := { maxStack := 0, maxLocals := 1, code := object_method_1_code, exceptionTable := #[], attributes := #[] }
def k0m0 : Method := { name := "<init>", desc := "()V", sig := { parameters := [], returnType := none }, accessFlags := 1, code := some k0c0 }
/-- java/lang/Object -/
def k0 : Class := { plain "java/lang/Object" none with
  accessFlags := 33
  interfaces := #[]
  cf := some (fileOf pool0 8 #[] #[{ accessFlags := 1, nameIndex := 5, descriptorIndex := 6, attributes := #[] }] 33 0 #[] #[])
  fields := #[]
  methods := #[k0m0]
  instanceTypes := #[]
  staticTypes := #[]
  resolved := Array.replicate 124 none
  statics := none }

def pool1 : Array CpInfo := pool [(2, .class_ 4), (1, u "java/lang/Object"), (0, u "<init>"), (0, u "()V"), (0, .long 31), (3, .long 9223372036854775807), (1, .methodref 14 15), (0, .class_ 16), (0, .nameAndType 17 18), (0, u "java/lang/Math"), (0, u "max"), (0, u "(JJ)J"), (0, .integer 2147483647), (0, .methodref 14 21), (0, .nameAndType 17 22), (0, u "(II)I"), (0, .class_ 24), (0, u "com/example/keyfold/keyfold/CommitSchedule"), (0, .methodref 23 26), (0, .nameAndType 5 27), (0, u "(JII)V"), (0, .methodref 23 29), (0, .nameAndType 30 31), (0, u "unwrittenRowsMs"), (0, u "()J"), (0, .long 16), (1, .long 576460752303423487), (1, .class_ 37), (0, u "com/example/keyfold/keyfold/CommitScheduleUnwrittenRowsMsPinLaw"), (2, u "law"), (0, u "(JIII)Z")] 3

def k1m0 : Method := { name := "<init>", desc := "()V", sig := { parameters := [], returnType := none }, accessFlags := 1, code := none }
def k1c1 : Code := { maxStack := 6, maxLocals := 14, code := code, exceptionTable := #[], attributes := #[] }
def k1m1 : Method := { name := "law", desc := "(JIII)Z", sig := { parameters := [.long, .int, .int, .int], returnType := some .boolean }, accessFlags := 9, code := some k1c1 }
/-- com/example/keyfold/keyfold/CommitScheduleUnwrittenRowsMsPinLaw -/
def k1 : Class := { plain "com/example/keyfold/keyfold/CommitScheduleUnwrittenRowsMsPinLaw" (some 0) with
  accessFlags := 49
  interfaces := #[]
  cf := some (fileOf pool1 36 #[] #[{ accessFlags := 1, nameIndex := 5, descriptorIndex := 6, attributes := #[] }, { accessFlags := 9, nameIndex := 40, descriptorIndex := 41, attributes := #[] }] 49 2 #[] #[])
  fields := #[]
  methods := #[k1m0, k1m1]
  instanceTypes := #[]
  staticTypes := #[]
  resolved := Array.replicate 45 none
  statics := none }

def pool2 : Array CpInfo := pool [(1, .class_ 2), (0, u "java/lang/Math"), (1, .class_ 6), (1, u "java/lang/Object"), (0, u "<init>"), (0, u "()V"), (89, .class_ 100), (1, u "java/lang/Math$RandomNumberGeneratorHolder"), (20, u "(JJ)J"), (50, u "negativeZeroFloatBits"), (0, u "J"), (2, u "negativeZeroDoubleBits"), (21, u "max"), (46, u "$assertionsDisabled"), (0, u "Z"), (88, u "(II)I"), (2, u "twoToTheDoubleScaleDown"), (0, u "D"), (4, u "twoToTheDoubleScaleUp"), (9, u "E"), (3, u "PI"), (2, u "TAU"), (2, u "DEGREES_TO_RADIANS"), (0, u "RADIANS_TO_DEGREES")] 94

def k2m0 : Method := { name := "<init>", desc := "()V", sig := { parameters := [], returnType := none }, accessFlags := 2, code := none }
def k2c1 : Code := { maxStack := 2, maxLocals := 2, code := jdk_29_method_65_code, exceptionTable := #[], attributes := #[] }
def k2m1 : Method := { name := "max", desc := "(II)I", sig := { parameters := [.int, .int], returnType := some .int }, accessFlags := 9, code := some k2c1 }
def k2c2 : Code := { maxStack := 4, maxLocals := 4, code := jdk_29_method_66_code, exceptionTable := #[], attributes := #[] }
def k2m2 : Method := { name := "max", desc := "(JJ)J", sig := { parameters := [.long, .long], returnType := some .long }, accessFlags := 9, code := some k2c2 }
/-- java/lang/Math -/
def k2 : Class := { plain "java/lang/Math" (some 0) with
  accessFlags := 49
  interfaces := #[]
  cf := some (fileOf pool2 1 #[.nestMembers #[98]] #[{ accessFlags := 2, nameIndex := 7, descriptorIndex := 8, attributes := #[] }, { accessFlags := 9, nameIndex := 198, descriptorIndex := 335, attributes := #[] }, { accessFlags := 9, nameIndex := 198, descriptorIndex := 121, attributes := #[] }] 49 4 #[] #[{ accessFlags := 25, nameIndex := 354, descriptorIndex := 339, attributes := #[] }, { accessFlags := 25, nameIndex := 358, descriptorIndex := 339, attributes := #[] }, { accessFlags := 25, nameIndex := 361, descriptorIndex := 339, attributes := #[] }, { accessFlags := 26, nameIndex := 364, descriptorIndex := 339, attributes := #[] }, { accessFlags := 26, nameIndex := 365, descriptorIndex := 339, attributes := #[] }, { accessFlags := 26, nameIndex := 172, descriptorIndex := 173, attributes := #[] }, { accessFlags := 26, nameIndex := 176, descriptorIndex := 173, attributes := #[] }, { accessFlags := 8, nameIndex := 344, descriptorIndex := 339, attributes := #[] }, { accessFlags := 8, nameIndex := 338, descriptorIndex := 339, attributes := #[] }, { accessFlags := 4120, nameIndex := 245, descriptorIndex := 246, attributes := #[] }])
  fields := #[{ name := "E", type := .double, accessFlags := 25, slot := 0, constantValue := 0 }, { name := "PI", type := .double, accessFlags := 25, slot := 1, constantValue := 0 }, { name := "TAU", type := .double, accessFlags := 25, slot := 2, constantValue := 0 }, { name := "DEGREES_TO_RADIANS", type := .double, accessFlags := 26, slot := 3, constantValue := 0 }, { name := "RADIANS_TO_DEGREES", type := .double, accessFlags := 26, slot := 4, constantValue := 0 }, { name := "negativeZeroFloatBits", type := .long, accessFlags := 26, slot := 5, constantValue := 0 }, { name := "negativeZeroDoubleBits", type := .long, accessFlags := 26, slot := 6, constantValue := 0 }, { name := "twoToTheDoubleScaleUp", type := .double, accessFlags := 8, slot := 7, constantValue := 0 }, { name := "twoToTheDoubleScaleDown", type := .double, accessFlags := 8, slot := 8, constantValue := 0 }, { name := "$assertionsDisabled", type := .boolean, accessFlags := 4120, slot := 9, constantValue := 0 }]
  methods := #[k2m0, k2m1, k2m2]
  instanceTypes := #[]
  staticTypes := #[.double, .double, .double, .double, .double, .long, .long, .double, .double, .boolean]
  resolved := Array.replicate 460 none
  statics := none }

def pool3 : Array CpInfo := pool [(1, .methodref 2 3), (0, .class_ 4), (0, .nameAndType 5 6), (0, u "java/lang/Object"), (0, u "<init>"), (0, u "()V"), (0, .fieldref 8 9), (0, .class_ 10), (0, .nameAndType 11 12), (0, u "com/example/keyfold/keyfold/CommitSchedule"), (0, u "intervalMs"), (0, u "J"), (0, .long 4), (1, .fieldref 8 16), (0, .nameAndType 17 12), (0, u "quarterMs"), (0, .fieldref 8 19), (0, .nameAndType 20 21), (0, u "committers"), (0, u "I"), (0, .fieldref 8 23), (0, .nameAndType 24 25), (0, u "oneTask"), (0, u "Z"), (0, .fieldref 8 27), (0, .nameAndType 28 12), (0, u "firstCommitMs"), (0, .long 2), (1, .fieldref 8 32), (0, .nameAndType 33 12), (0, u "standInStepMs"), (1, .class_ 37), (1, u "java/lang/Math"), (1, u "(JJ)J"), (12, .long 9223372036854775807), (1, .long 16), (1, .methodref 35 57), (0, .nameAndType 58 39), (0, u "max"), (26, u "()J"), (4, u "(JII)V"), (12, u "unwrittenRowsMs")] 24

def k3c0 : Code := { maxStack := 7, maxLocals := 5, code := prog_1_method_1_code, exceptionTable := #[], attributes := #[] }
def k3m0 : Method := { name := "<init>", desc := "(JII)V", sig := { parameters := [.long, .int, .int], returnType := none }, accessFlags := 0, code := some k3c0 }
def k3c1 : Code := { maxStack := 6, maxLocals := 1, code := prog_1_method_11_code, exceptionTable := #[], attributes := #[] }
def k3m1 : Method := { name := "unwrittenRowsMs", desc := "()J", sig := { parameters := [], returnType := some .long }, accessFlags := 0, code := some k3c1 }
/-- com/example/keyfold/keyfold/CommitSchedule -/
def k3 : Class := { plain "com/example/keyfold/keyfold/CommitSchedule" (some 0) with
  accessFlags := 48
  interfaces := #[]
  cf := some (fileOf pool3 8 #[] #[{ accessFlags := 0, nameIndex := 5, descriptorIndex := 90, attributes := #[] }, { accessFlags := 0, nameIndex := 103, descriptorIndex := 85, attributes := #[] }] 48 2 #[] #[{ accessFlags := 18, nameIndex := 11, descriptorIndex := 12, attributes := #[] }, { accessFlags := 18, nameIndex := 17, descriptorIndex := 12, attributes := #[] }, { accessFlags := 18, nameIndex := 20, descriptorIndex := 21, attributes := #[] }, { accessFlags := 18, nameIndex := 24, descriptorIndex := 25, attributes := #[] }, { accessFlags := 18, nameIndex := 28, descriptorIndex := 12, attributes := #[] }, { accessFlags := 18, nameIndex := 33, descriptorIndex := 12, attributes := #[] }])
  fields := #[{ name := "intervalMs", type := .long, accessFlags := 18, slot := 0, constantValue := 0 }, { name := "quarterMs", type := .long, accessFlags := 18, slot := 1, constantValue := 0 }, { name := "committers", type := .int, accessFlags := 18, slot := 2, constantValue := 0 }, { name := "oneTask", type := .boolean, accessFlags := 18, slot := 3, constantValue := 0 }, { name := "firstCommitMs", type := .long, accessFlags := 18, slot := 4, constantValue := 0 }, { name := "standInStepMs", type := .long, accessFlags := 18, slot := 5, constantValue := 0 }]
  methods := #[k3m0, k3m1]
  instanceTypes := #[.long, .long, .int, .boolean, .long, .long]
  staticTypes := #[]
  resolved := Array.replicate 128 none
  statics := none }

def pool4 : Array CpInfo := pool [(1, u "java/lang/Cloneable"), (0, .class_ 1), (0, u "java/lang/Object"), (0, .class_ 3)] 3

/-- java/lang/Cloneable -/
def k4 : Class := { plain "java/lang/Cloneable" (some 0) with
  accessFlags := 1537
  interfaces := #[]
  cf := some (fileOf pool4 2 #[] #[] 1537 4 #[] #[])
  fields := #[]
  methods := #[]
  instanceTypes := #[]
  staticTypes := #[]
  resolved := Array.replicate 8 none
  statics := none }

def pool5 : Array CpInfo := pool [(1, u "java/io/Serializable"), (0, .class_ 1), (0, u "java/lang/Object"), (0, .class_ 3)] 3

/-- java/io/Serializable -/
def k5 : Class := { plain "java/io/Serializable" (some 0) with
  accessFlags := 1537
  interfaces := #[]
  cf := some (fileOf pool5 2 #[] #[] 1537 4 #[] #[])
  fields := #[]
  methods := #[]
  instanceTypes := #[]
  staticTypes := #[]
  resolved := Array.replicate 8 none
  statics := none }

/-- the primitive byte -/
def k6 : Class := { plain "byte" none with kind := .primitive 'B', accessFlags := 0x411 }
/-- [B -/
def k7 : Class := { plain "[B" (some 0) with kind := .array 6 .byte, interfaces := #[4, 5], accessFlags := 1041 }

/-- the primitive int -/
def k8 : Class := { plain "int" none with kind := .primitive 'I', accessFlags := 0x411 }
/-- [I -/
def k9 : Class := { plain "[I" (some 0) with kind := .array 8 .int, interfaces := #[4, 5], accessFlags := 1041 }

def heap : Heap := #[]
def classes : Array Class := #[k0, k1, k2, k3, k4, k5, k6, k7, k8, k9]
def interned : List (Array UInt16 × Addr) := []
def slotsUsed : Nat := 0
def theMethod : MethodId := ⟨1, 1⟩
def args0 : Array Value := #[.long 5, .int 300, .int 7, .int 8]
def aboutOver (below : List Frame) : State where
  vm := { classes := classes, interned := interned.toArray }
  heap := heap
  slotsUsed := slotsUsed
  threads := #[{ frames := .invoking theMethod args0 :: below }]
def below0 : List Frame := [.native { method := ⟨0, 0⟩, args := #[] }]
def about1 : State := aboutOver below0
def p0 : Program := .bare "" "" ""
def e0 : Env := launch0.env 0 0 0
theorem w_frames : about1.frames = Frame.invoking theMethod args0 :: below0 := rfl
set_option maxRecDepth 65536 in
theorem w_args : argsFit about1.vm theMethod args0 = true := by decide +kernel
set_option maxRecDepth 65536 in
theorem w_heap : heapFits about1 = true := by decide +kernel
set_option maxRecDepth 65536 in
theorem w_runnable : about1.curStatus? = some .runnable := by decide +kernel
set_option maxRecDepth 65536 in
theorem w_alone : about1.alone = true := by decide +kernel
set_option maxRecDepth 65536 in
theorem w_named : about1.methodNamed? x = some theMethod := by decide +kernel
set_option maxRecDepth 65536 in
theorem w_hears : about1.hears theMethod below0 = true := by decide +kernel
set_option maxRecDepth 65536 in
theorem w_ripe : about1.ripe theMethod args0 below0 = true := by decide +kernel
theorem w_running : about1.status = .running := rfl
set_option maxRecDepth 65536 in
theorem w_room : about1.hasRoom e0.platform room_1 = true :=
  launch0.hasRoom_least _ room_1 (by decide +kernel) (by decide +kernel) (by decide +kernel) (by decide +kernel) (by decide +kernel) (by decide +kernel)
theorem allAtoms_all (ts : List Jvm.Cond) (a : Array Jvm.Value) (st : Jvm.State) : (allAtoms ts).before a st = ts.all (fun c => c.before a st) := by
  induction ts with
  | nil => rfl
  | cons c t ih =>
    show (Jvm.Cond.and c (allAtoms t)).before a st = _
    rw [Jvm.Cond.before_and, ih, List.all_cons]
def words1 : List Jvm.Cond := Jvm.Cond.code x code maxLocals ret :: tables_1
/-- a 'code' word, met by the world's own term for the bytes: nothing is compared byte by byte -/
theorem code_word {y : MethodName} {bytes : ByteArray} {mx : Nat} {rt : Option FieldType} {a : Array Value} {s : State} {m : MethodId} {meth : Method} {c : Code} (h1 : s.methodNamed? y = some m) (h2 : s.vm.method? m = some meth) (h3 : meth.code = some c) (h4 : c.code = bytes)
    (h5 : (c.maxLocals == mx && c.exceptionTable.isEmpty && decide (c.maxStack ≤ mostOperands) && decide (meth.sig.returnType = rt) && !meth.locks && decide (parseMethodDescriptor y.desc = some meth.sig)) = true) : (Jvm.Cond.code y bytes mx rt).before a s = true := by
  simp only [Bool.and_eq_true, beq_iff_eq, Bool.not_eq_true', decide_eq_true_eq] at h5
  obtain ⟨⟨⟨⟨⟨g1, g2⟩, g3⟩, g4⟩, g5⟩, g6⟩ := h5
  simp [Cond.before, Cond.holds, Cond.value, h1, h2, h3, h4, g1, g2, g3, g4, g5, g6]
def isCode : Jvm.Cond → Bool
  | .code _ _ _ _ => true
  | _ => false
theorem all_split {L : List Jvm.Cond} {P : Jvm.Cond → Bool} (h1 : L.all (fun c => isCode c || P c) = true) (h2 : ∀ c ∈ L.filter isCode, P c = true) : L.all P = true := by
  refine List.all_eq_true.mpr fun c hc => ?_
  have h := List.all_eq_true.mp h1 c hc
  rcases Bool.eq_false_or_eq_true (isCode c) with hi | hi
  · exact h2 c (List.mem_filter.mpr ⟨hc, hi⟩)
  · simpa [hi] using h
set_option maxRecDepth 65536 in
theorem w_c0 : (Jvm.Cond.code x code maxLocals ret).before args0 about1 = true := code_word (m := ⟨1, 1⟩) (meth := k1m1) (c := k1c1) (by decide +kernel) rfl rfl rfl (by decide +kernel)
set_option maxRecDepth 65536 in
theorem w_c1 : (Jvm.Cond.code ({ cls := "java/lang/Math", name := "max", desc := "(JJ)J" } : Jvm.MethodName) jdk_29_method_66_code (4 : Nat) (Option.some Jvm.ClassFile.FieldType.long)).before args0 about1 = true := code_word (m := ⟨2, 2⟩) (meth := k2m2) (c := k2c2) (by decide +kernel) rfl rfl rfl (by decide +kernel)
set_option maxRecDepth 65536 in
theorem w_c2 : (Jvm.Cond.code ({ cls := "java/lang/Math", name := "max", desc := "(II)I" } : Jvm.MethodName) jdk_29_method_65_code (2 : Nat) (Option.some Jvm.ClassFile.FieldType.int)).before args0 about1 = true := code_word (m := ⟨2, 1⟩) (meth := k2m1) (c := k2c1) (by decide +kernel) rfl rfl rfl (by decide +kernel)
set_option maxRecDepth 65536 in
theorem w_c3 : (Jvm.Cond.code ({ cls := "com/example/keyfold/keyfold/CommitSchedule", name := "<init>", desc := "(JII)V" } : Jvm.MethodName) prog_1_method_1_code (5 : Nat) (Option.none : Option Jvm.ClassFile.FieldType)).before args0 about1 = true := code_word (m := ⟨3, 0⟩) (meth := k3m0) (c := k3c0) (by decide +kernel) rfl rfl rfl (by decide +kernel)
set_option maxRecDepth 65536 in
theorem w_c4 : (Jvm.Cond.code ({ cls := "java/lang/Object", name := "<init>", desc := "()V" } : Jvm.MethodName) object_method_1_code (1 : Nat) (Option.none : Option Jvm.ClassFile.FieldType)).before args0 about1 = true := code_word (m := ⟨0, 0⟩) (meth := k0m0) (c := k0c0) (by decide +kernel) rfl rfl rfl (by decide +kernel)
set_option maxRecDepth 65536 in
theorem w_c5 : (Jvm.Cond.code ({ cls := "com/example/keyfold/keyfold/CommitSchedule", name := "unwrittenRowsMs", desc := "()J" } : Jvm.MethodName) prog_1_method_11_code (1 : Nat) (Option.some Jvm.ClassFile.FieldType.long)).before args0 about1 = true := code_word (m := ⟨3, 1⟩) (meth := k3m1) (c := k3c1) (by decide +kernel) rfl rfl rfl (by decide +kernel)
def codes1 : List Jvm.Cond := [Jvm.Cond.code x code maxLocals ret, Jvm.Cond.code ({ cls := "java/lang/Math", name := "max", desc := "(JJ)J" } : Jvm.MethodName) jdk_29_method_66_code (4 : Nat) (Option.some Jvm.ClassFile.FieldType.long), Jvm.Cond.code ({ cls := "java/lang/Math", name := "max", desc := "(II)I" } : Jvm.MethodName) jdk_29_method_65_code (2 : Nat) (Option.some Jvm.ClassFile.FieldType.int), Jvm.Cond.code ({ cls := "com/example/keyfold/keyfold/CommitSchedule", name := "<init>", desc := "(JII)V" } : Jvm.MethodName) prog_1_method_1_code (5 : Nat) (Option.none : Option Jvm.ClassFile.FieldType), Jvm.Cond.code ({ cls := "java/lang/Object", name := "<init>", desc := "()V" } : Jvm.MethodName) object_method_1_code (1 : Nat) (Option.none : Option Jvm.ClassFile.FieldType), Jvm.Cond.code ({ cls := "com/example/keyfold/keyfold/CommitSchedule", name := "unwrittenRowsMs", desc := "()J" } : Jvm.MethodName) prog_1_method_11_code (1 : Nat) (Option.some Jvm.ClassFile.FieldType.long)]
set_option maxRecDepth 65536 in
theorem codes_eq : words1.filter isCode = codes1 := rfl
theorem w_codes : ∀ c ∈ words1.filter isCode, c.before args0 about1 = true := by
  rw [codes_eq]
  intro c hc
  simp only [codes1, List.mem_cons, List.not_mem_nil, or_false] at hc
  rcases hc with rfl | rfl | rfl | rfl | rfl | rfl
  · exact w_c0
  · exact w_c1
  · exact w_c2
  · exact w_c3
  · exact w_c4
  · exact w_c5
set_option maxRecDepth 65536 in
theorem w_t1 : (words1.take 24).all (fun c => isCode c || c.before args0 about1) = true := by decide +kernel
set_option maxRecDepth 65536 in
theorem w_t2 : (words1.drop 24).all (fun c => isCode c || c.before args0 about1) = true := by decide +kernel
theorem w_tables : (allAtoms (Jvm.Cond.code x code maxLocals ret :: tables_1)).before args0 about1 = true := by
  rw [allAtoms_all]
  show words1.all (fun c => c.before args0 about1) = true
  refine all_split ?_ w_codes
  rw [← List.take_append_drop 24 words1, List.all_append, w_t1, w_t2]
  rfl
set_option maxRecDepth 65536 in
theorem w_case : (Jvm.Cond.and given_1 narrow_1).before args0 about1 = true := by decide +kernel
theorem w_applies : (headSpec (Jvm.Cond.code x code maxLocals ret :: tables_1) room_1).applies x e0.platform about1 = true :=
  (Spec.applies_iff w_frames).mpr ⟨w_running, w_runnable, w_alone, w_named, w_hears, w_ripe, w_room, w_tables⟩
theorem atStart : AtStart classFile x code maxLocals ret World_1 tables_1 room_1 Calls_1 rest_1 Pre_1 launch0 p0 e0 about1 theMethod args0 below0 :=
  ⟨lists_1, trivial, launch0.admits_env _ _ _, launch0.least_env, fairChoices_fair.cas, fairChoices_fair.clock, w_frames, w_args, w_heap, w_applies, trivial, trivial, w_case⟩
end start1
theorem witness_1 : WitnessClaimed_1 := ⟨start1.p0, start1.e0, start1.about1, start1.theMethod, start1.args0, start1.below0, start1.atStart⟩
end Jvm.Pilot.@@N@@
