import JvmDerived
import JvmDerived.Pilot.@@N@@Statement
import JvmDerived.Pilot.@@N@@Code
set_option linter.unusedVariables false
set_option linter.unusedSimpArgs false
namespace Jvm.RoadKit
open Sem ClassFile Op Lib Jvm.Stand Jvm.Free Jvm.LawKit
section New
variable {p : Program} {l : Launch} {e : Env} {R : Room} {s : State} {m : MethodId} {args : Array Value} {below : List Frame} {meth : Method} {c : Code} {T : State} {locs : List Loc} {cells slots : Nat}
theorem retI (X : Stand p l e R s m args below meth c T locs cells slots) (hx : p.tables.exec = Jvm.exec) {pc : Nat} {Ls : Array Slot} {z : Int32} {rest : List Value} (hret : meth.sig.returnType = some .int) (hd : decode c.code pc = .ok (.ireturn, 1)) {fs : List Frame}
    (hl : ∀ (f : JFrame) (acts : List Action), f.method = m → f.locked = none → f.entered = [] → (doReturn e (T.setTop f) acts (some (.int z))).1 = T.setFrames fs) : Steps p.tables e below (T.setTop (mkF m pc Ls (.int z :: rest))) (T.setFrames fs) := by
  have hm' : T.vm.method? m = some meth := X.method'
  have hn : narrow .int (.int z) = .int z := rfl
  show Steps p.tables e below (T.setTop { method := m, pc := pc, locals := Ls, stack := _ :: rest, locked := none }) _
  jvm_step X.here [X.here.top, hx, hd, hm', hret, hn]
  first | (intro acts; rw [hl _ acts rfl rfl rfl]) | rw [hl _ _ rfl rfl rfl]
  exact Steps.refl _
end New
end Jvm.RoadKit
namespace Jvm.Pilot.@@N@@
open Jvm Jvm.ClassFile Sem Op Lib Jvm.Free Jvm.Stand Jvm.LawKit Jvm.RoadKit Bundle Jvm.Pilot.@@N@@.Jvm.D
/-! my own layer: all goals of a walk have one shape -/
section Own
variable {p : Program} {l : Launch} {e : Env} {R : Room} {s : State} {m : MethodId} {args : Array Value} {below : List Frame} {meth : Method} {c : Code} {T : State} {locs : List Loc} {cells slots : Nat} {Q : Option Value → Heap → List Loc → Prop} {nc ns : Nat} {A B : State}
/-- from A the method comes to its end, with Q of what it returns, of the heap and of the places written -/
def own_Go (p : Program) (e : Env) (below : List Frame) (s : State) (Q : Option Value → Heap → List Loc → Prop) (nc ns : Nat) (A : State) : Prop :=
  ∃ s₂ o, Steps p.tables e below A s₂ ∧ s₂.status = .running ∧ Ended s₂ below o ∧ ∃ v L, o = .returned v ∧ Q v s₂.heap L ∧ FrameEnd s o s₂ L nc ns
theorem own_go (k : ∀ t, Steps p.tables e below B t → Steps p.tables e below A t) (h : own_Go p e below s Q nc ns B) : own_Go p e below s Q nc ns A := by
  obtain ⟨t, o, h1, h2⟩ := h
  exact ⟨t, o, k t h1, h2⟩
theorem own_end (X : Stand p l e R s m args below meth c T locs cells slots) {v : Option Value} (hv : meth.sig.returnType = none → v = none) (hlk : meth.locks = false) (hq : Q v T.heap locs) (hc : cells ≤ nc) (hs : slots ≤ ns)
    (hst : ∀ fs, (∀ (f : JFrame) (acts : List Action), f.method = m → f.locked = none → f.entered = [] → (doReturn e (T.setTop f) acts v).1 = T.setFrames fs) → Steps p.tables e below A (T.setFrames fs)) : own_Go p e below s Q nc ns A := by
  obtain ⟨fs, hr, hrun, hended, hW, hsame⟩ := X.leave (v := v) hv hlk
  exact ⟨_, _, hst fs hr, hrun, hended, v, locs, rfl, hq, ⟨_, rfl⟩, hW, hsame.mono hc hs⟩
theorem own_wide {cells' slots' : Nat} (X : Stand p l e R s m args below meth c T locs cells slots) (hc : cells ≤ cells') (hs : slots ≤ slots') : Stand p l e R s m args below meth c T locs cells' slots' :=
  { X with same := X.same.mono hc hs }
theorem own_lrem {tb : Tables} [Ours tb] {target : State} {g : JFrame} (h : At T m c below) (hx : tb.exec = Jvm.exec) (hg : g.method = m) {x y : Int64} {rest : List Value} (hd : decode c.code g.pc = .ok (.lrem, 1)) (hs : g.stack = .long y :: .long x :: rest) (hy : y ≠ 0)
    (hr : Steps tb e below (T.setTop { g with pc := g.pc + 1, stack := .long (x % y) :: rest }) target) : Steps tb e below (T.setTop g) target :=
  XS.lrem h hx hg hd hs hy (by rw [lrem_mod]; exact hr)
end Own
section Own2
variable {Z s : State} {a0 args : Array Value} {h : Heap} {a b : Addr} {C : String} {c : Cell} {ty : FieldType}
theorem own_selP {y : MethodName} {n : Nat} (hZ : Z.Warmed39 s.vm) (wi : (Jvm.Cond.instantiable y.cls n).before a0 Z = true) (w2 : (Jvm.Cond.instanceMethod y).before a0 Z = true) (w3 : (Jvm.Cond.privateMethod y).before a0 Z = true)
    (hy : y.cls ≠ "java/lang/invoke/MethodHandle" ∧ y.cls ≠ "java/lang/invoke/VarHandle" := by decide) : (Jvm.Cond.selects y.cls y y).before args s = true := by
  have wi' : (Jvm.Cond.instantiable y.cls n).before args s = true := mvT hZ wi
  obtain ⟨c, k, h1, h2, -, h4, -⟩ := Cond.instantiable_spec wi'
  have h5 : k.isInterface = false := by
    cases hk : k.isInterface
    · rfl
    · rw [hk] at h4; simp at h4
  exact selects_self_of_private h1 h2 h5 (Cond.privateMethod_at (mvP hZ w3 (args := #[]))) (mvT hZ w2) hy
theorem own_neA {n : Nat} (F : Exa Z h a C) (wi : (Jvm.Cond.instantiable C n).before a0 Z = true) (G : ∃ c, Arr Z h b c ty) : a ≠ b := by
  obtain ⟨c, G⟩ := G
  exact ne_arr F wi G
end Own2
theorem own_nz {x : Int32} (h : (1 : Int32) < x) : ((x - (1 : Int32)).toInt64) ≠ 0 := by
  intro e
  have e2 := congrArg Int64.toInt e
  rw [Int32.toInt_toInt64] at e2
  have h1 := Int32.lt_iff_toInt_lt.mp h
  have h2 := c_isub x 1
  have e1 : (1 : Int32).toInt = 1 := rfl
  have e0 : (0 : Int64).toInt = 0 := rfl
  have := rng32 x
  omega
def own_init_quarterMs (p1 : Int64) : Int64 := ((p1 / (4 : Int64)))
def own_init_oneTask (p3 : Int32) : Int32 := (nar .boolean ((if p3 = (1 : Int32) then (1 : Int32) else (0 : Int32))))
def own_init_firstCommitMs (p1 : Int64) (p3 : Int32) : Int64 := ((if (nar .boolean ((if p3 = (1 : Int32) then (1 : Int32) else (0 : Int32)))) = 0 then ((p1 / (4 : Int64))) else (0 : Int64)))
def own_init_standInStepMs (p1 : Int64) (p2 : Int32) : Int64 := ((if (1 : Int32) < p2 then ((p1 - ((2 : Int64) * ((p1 / (4 : Int64))))) / ((p2 - (1 : Int32)).toInt64)) else (0 : Int64)))
def Q_rm1 (Z : State) (a : Addr) (p1 : Int64) (p2 : Int32) (p3 : Int32) (u_iv : Int64) (u_q : Int64) (u_c : Int32) (u_o : Int32) (u_f : Int64) (u_s : Int64) (h0 : Heap) (n0 : Nat) (v : Option Value) (h : Heap) (L : List Loc) : Prop := v = none ∧ Fr n0 L ∧ Keep h0 h [a] ∧ Exa Z h a "com/example/keyfold/keyfold/CommitSchedule" ∧ Fld Z h a "com/example/keyfold/keyfold/CommitSchedule" "intervalMs" "J" (.long p1) ∧ Fld Z h a "com/example/keyfold/keyfold/CommitSchedule" "quarterMs" "J" (.long (own_init_quarterMs p1)) ∧ Fld Z h a "com/example/keyfold/keyfold/CommitSchedule" "committers" "I" (.int p2) ∧ Fld Z h a "com/example/keyfold/keyfold/CommitSchedule" "oneTask" "Z" (.int (own_init_oneTask p3)) ∧ Fld Z h a "com/example/keyfold/keyfold/CommitSchedule" "firstCommitMs" "J" (.long (own_init_firstCommitMs p1 p3)) ∧ Fld Z h a "com/example/keyfold/keyfold/CommitSchedule" "standInStepMs" "J" (.long (own_init_standInStepMs p1 p2))
theorem own_pn0 : plainName "com/example/keyfold/keyfold/CommitSchedule" = true := by first | (simp [plainName, overriddenIn]; done) | decide +kernel
theorem d1_0 : decode prog_1_method_1_code 0 = .ok (.aload_n 0, 1) := by decide +kernel
theorem d1_1 : decode prog_1_method_1_code 1 = .ok (.invokespecial 1, 3) := by decide +kernel
theorem d1_4 : decode prog_1_method_1_code 4 = .ok (.aload_n 0, 1) := by decide +kernel
theorem d1_5 : decode prog_1_method_1_code 5 = .ok (.lload_n 1, 1) := by decide +kernel
theorem d1_6 : decode prog_1_method_1_code 6 = .ok (.putfield 7, 3) := by decide +kernel
theorem d1_9 : decode prog_1_method_1_code 9 = .ok (.aload_n 0, 1) := by decide +kernel
theorem d1_10 : decode prog_1_method_1_code 10 = .ok (.lload_n 1, 1) := by decide +kernel
theorem d1_11 : decode prog_1_method_1_code 11 = .ok (.ldc2_w 13, 3) := by decide +kernel
theorem d1_14 : decode prog_1_method_1_code 14 = .ok (.ldiv, 1) := by decide +kernel
theorem d1_15 : decode prog_1_method_1_code 15 = .ok (.putfield 15, 3) := by decide +kernel
theorem d1_18 : decode prog_1_method_1_code 18 = .ok (.aload_n 0, 1) := by decide +kernel
theorem d1_19 : decode prog_1_method_1_code 19 = .ok (.iload_n 3, 1) := by decide +kernel
theorem d1_20 : decode prog_1_method_1_code 20 = .ok (.putfield 18, 3) := by decide +kernel
theorem d1_23 : decode prog_1_method_1_code 23 = .ok (.aload_n 0, 1) := by decide +kernel
theorem d1_24 : decode prog_1_method_1_code 24 = .ok (.iload 4, 2) := by decide +kernel
theorem d1_26 : decode prog_1_method_1_code 26 = .ok (.iconst 1, 1) := by decide +kernel
theorem d1_27 : decode prog_1_method_1_code 27 = .ok (.if_icmp .ne 7, 3) := by decide +kernel
theorem d1_30 : decode prog_1_method_1_code 30 = .ok (.iconst 1, 1) := by decide +kernel
theorem d1_31 : decode prog_1_method_1_code 31 = .ok (.goto 4, 3) := by decide +kernel
theorem d1_34 : decode prog_1_method_1_code 34 = .ok (.iconst 0, 1) := by decide +kernel
theorem d1_35 : decode prog_1_method_1_code 35 = .ok (.putfield 22, 3) := by decide +kernel
theorem d1_38 : decode prog_1_method_1_code 38 = .ok (.aload_n 0, 1) := by decide +kernel
theorem d1_39 : decode prog_1_method_1_code 39 = .ok (.aload_n 0, 1) := by decide +kernel
theorem d1_40 : decode prog_1_method_1_code 40 = .ok (.getfield 22, 3) := by decide +kernel
theorem d1_43 : decode prog_1_method_1_code 43 = .ok (.ifCond .eq 7, 3) := by decide +kernel
theorem d1_46 : decode prog_1_method_1_code 46 = .ok (.lconst 0, 1) := by decide +kernel
theorem d1_47 : decode prog_1_method_1_code 47 = .ok (.goto 7, 3) := by decide +kernel
theorem d1_50 : decode prog_1_method_1_code 50 = .ok (.aload_n 0, 1) := by decide +kernel
theorem d1_51 : decode prog_1_method_1_code 51 = .ok (.getfield 15, 3) := by decide +kernel
theorem d1_54 : decode prog_1_method_1_code 54 = .ok (.putfield 26, 3) := by decide +kernel
theorem d1_57 : decode prog_1_method_1_code 57 = .ok (.aload_n 0, 1) := by decide +kernel
theorem d1_58 : decode prog_1_method_1_code 58 = .ok (.iload_n 3, 1) := by decide +kernel
theorem d1_59 : decode prog_1_method_1_code 59 = .ok (.iconst 1, 1) := by decide +kernel
theorem d1_60 : decode prog_1_method_1_code 60 = .ok (.if_icmp .le 21, 3) := by decide +kernel
theorem d1_63 : decode prog_1_method_1_code 63 = .ok (.lload_n 1, 1) := by decide +kernel
theorem d1_64 : decode prog_1_method_1_code 64 = .ok (.ldc2_w 29, 3) := by decide +kernel
theorem d1_67 : decode prog_1_method_1_code 67 = .ok (.aload_n 0, 1) := by decide +kernel
theorem d1_68 : decode prog_1_method_1_code 68 = .ok (.getfield 15, 3) := by decide +kernel
theorem d1_71 : decode prog_1_method_1_code 71 = .ok (.lmul, 1) := by decide +kernel
theorem d1_72 : decode prog_1_method_1_code 72 = .ok (.lsub, 1) := by decide +kernel
theorem d1_73 : decode prog_1_method_1_code 73 = .ok (.iload_n 3, 1) := by decide +kernel
theorem d1_74 : decode prog_1_method_1_code 74 = .ok (.iconst 1, 1) := by decide +kernel
theorem d1_75 : decode prog_1_method_1_code 75 = .ok (.isub, 1) := by decide +kernel
theorem d1_76 : decode prog_1_method_1_code 76 = .ok (.i2l, 1) := by decide +kernel
theorem d1_77 : decode prog_1_method_1_code 77 = .ok (.ldiv, 1) := by decide +kernel
theorem d1_78 : decode prog_1_method_1_code 78 = .ok (.goto 4, 3) := by decide +kernel
theorem d1_81 : decode prog_1_method_1_code 81 = .ok (.lconst 0, 1) := by decide +kernel
theorem d1_82 : decode prog_1_method_1_code 82 = .ok (.putfield 31, 3) := by decide +kernel
theorem d1_85 : decode prog_1_method_1_code 85 = .ok (.return_, 1) := by decide +kernel
set_option maxRecDepth 65536 in
set_option maxHeartbeats 40000000 in
theorem rm1 (l : Launch) (Z : State) (a0 : Array Value) (hw : ∀ d ∈ tables_1, d.before a0 Z = true) (ws : List Jvm.Cond) (a : Addr) (p1 : Int64) (p2 : Int32) (p3 : Int32) (u_iv : Int64) (u_q : Int64) (u_c : Int32) (u_o : Int32) (u_f : Int64) (u_s : Int64) (h0 : Heap) (n0 : Nat) (Z0 : n0 ≤ h0.size) (E_a : Exa Z h0 a "com/example/keyfold/keyfold/CommitSchedule") (F_a_intervalMs : Fld Z h0 a "com/example/keyfold/keyfold/CommitSchedule" "intervalMs" "J" (.long u_iv)) (F_a_quarterMs : Fld Z h0 a "com/example/keyfold/keyfold/CommitSchedule" "quarterMs" "J" (.long u_q)) (F_a_committers : Fld Z h0 a "com/example/keyfold/keyfold/CommitSchedule" "committers" "I" (.int u_c)) (F_a_oneTask : Fld Z h0 a "com/example/keyfold/keyfold/CommitSchedule" "oneTask" "Z" (.int u_o)) (F_a_firstCommitMs : Fld Z h0 a "com/example/keyfold/keyfold/CommitSchedule" "firstCommitMs" "J" (.long u_f)) (F_a_standInStepMs : Fld Z h0 a "com/example/keyfold/keyfold/CommitSchedule" "standInStepMs" "J" (.long u_s)) (g_a : n0 ≤ a)  :
    MetFree l (⟨"com/example/keyfold/keyfold/CommitSchedule", "<init>", "(JII)V"⟩ : MethodName) (head1 (Jvm.Cond.code (⟨"com/example/keyfold/keyfold/CommitSchedule", "<init>", "(JII)V"⟩ : MethodName) prog_1_method_1_code 5 none :: ws) ({ frames := 1, cells := 0, slots := 0, locals := 12 } : Room)) (fun aa U => aa = #[(.ref a), (.long p1), (.int p2), (.int p3)] ∧ Z.Warmed39 U.vm ∧ U.heap = h0) (fun _ _ _ _ _ => True) (fun _ U o U' => ∃ v L, o = .returned v ∧ Q_rm1 Z a p1 p2 p3 u_iv u_q u_c u_o u_f u_s h0 n0 v U'.heap L ∧ FrameEnd U o U' L ({ frames := 1, cells := 0, slots := 0, locals := 12 } : Room).cells ({ frames := 1, cells := 0, slots := 0, locals := 12 } : Room).slots) := by
  refine MetFree.of_bodySF (plainFor_of_name own_pn0) hisR ?_
  intro p e s m args below meth c s₁ Bd hml0 hP hK
  obtain ⟨rfl, hZ, hh⟩ := hP
  have hx := Bd.exec
  have hby := Bd.bytes
  have hml : c.maxLocals = 5 := hml0
  have hlk : meth.locks = false := BodyLoose.notSynchronized Bd
  have hown : s.vm.findClass "com/example/keyfold/keyfold/CommitSchedule" = some m.cls := findClass_of_methodNamed Bd.named
  have hnm := (name_of_methodNamed Bd.named Bd.method).1
  have X0 : Stand p l e ({ frames := 1, cells := 0, slots := 0, locals := 12 } : Room) s m #[(.ref a), (.long p1), (.int p2), (.int p3)] below meth c s₁ [] 0 0 := Stand.of_body Bd
  have e0 : s₁.heap = h0 := by rw [← hh, Bd.state]; rfl
  have N0 := Fr.nil n0
  show own_Go p e below s (Q_rm1 Z a p1 p2 p3 u_iv u_q u_c u_o u_f u_s h0 n0) 0 0 (s₁.setTop (entryFrame m #[(.ref a), (.long p1), (.int p2), (.int p3)] 5))
  refine own_go (B := s₁.setTop (mkF m 0 #[.val (.ref a), .val (.long p1), .second, .val (.int p2), .val (.int p3)] [])) (fun tgt cont => (XT.entry rfl).trans cont) ?_
  refine own_go (B := s₁.setTop (mkF m 1 #[.val (.ref a), .val (.long p1), .second, .val (.int p2), .val (.int p3)] [(.ref a)])) (fun tgt cont => ?_) ?_
  · refine XS.aloadN X0.here hx rfl (hb hby d1_0) rfl rfl ?_
    exact cont
  obtain ⟨T1, X1, e1, st1⟩ := initO X0 hx hZ hown (hw _ (List.mem_of_getElem? (i := 7) rfl)) (hw _ (List.mem_of_getElem? (i := 8) rfl)) (hw _ (List.mem_of_getElem? (i := 9) rfl)) e0 (g := (mkF m 1 #[.val (.ref a), .val (.long p1), .second, .val (.int p2), .val (.int p3)] [(.ref a)])) rfl (by rw [hml]; rfl) rfl (hb hby d1_1) (by decide) (W := 0) (by show 2 * 0 + _ ≤ _; exact Nat.le_of_eq rfl) (by decide)
  refine own_go (fun tgt cont => st1 tgt cont) ?_
  show own_Go p e below s (Q_rm1 Z a p1 p2 p3 u_iv u_q u_c u_o u_f u_s h0 n0) 0 0 (T1.setTop (mkF m 4 #[.val (.ref a), .val (.long p1), .second, .val (.int p2), .val (.int p3)] []))
  refine own_go (B := T1.setTop (mkF m 6 #[.val (.ref a), .val (.long p1), .second, .val (.int p2), .val (.int p3)] [(.long p1), (.ref a)])) (fun tgt cont => ?_) ?_
  · refine XS.aloadN X1.here hx rfl (hb hby d1_4) rfl rfl ?_
    refine XS.lloadN X1.here hx rfl (hb hby d1_5) rfl ?_
    exact cont
  obtain ⟨T2, h2, X2, e2, W2, st2⟩ := putF X1 hx hZ hown (host := "") (Or.inl (hw _ (List.mem_of_getElem? (i := 10) rfl))) Via.refl e1 F_a_intervalMs E_a (Or.inr ⟨(hw _ (List.mem_of_getElem? (i := 11) rfl)), rfl, hnm⟩) (hw _ (List.mem_of_getElem? (i := 2) rfl)) (ty := .long) (by decide) rfl rfl (g := (mkF m 6 #[.val (.ref a), .val (.long p1), .second, .val (.int p2), .val (.int p3)] [(.long p1), (.ref a)])) rfl rfl (hb hby d1_6)
  have fw2 := F_a_intervalMs.same W2
  have N2 := Fr.snoc X2 N0 g_a
  have kk2 : Keep h0 h2 [a] := (Keep.refl h0 [a]).wr W2 (Or.inl (List.mem_of_getElem? (i := 0) rfl))
  have zp2 : n0 ≤ h2.size := Nat.le_trans Z0 kk2.1
  refine own_go (fun tgt cont => st2 tgt cont) ?_
  show own_Go p e below s (Q_rm1 Z a p1 p2 p3 u_iv u_q u_c u_o u_f u_s h0 n0) 0 0 (T2.setTop (mkF m 9 #[.val (.ref a), .val (.long p1), .second, .val (.int p2), .val (.int p3)] []))
  refine own_go (B := T2.setTop (mkF m 15 #[.val (.ref a), .val (.long p1), .second, .val (.int p2), .val (.int p3)] [(.long (p1 / (4 : Int64))), (.ref a)])) (fun tgt cont => ?_) ?_
  · refine XS.aloadN X2.here hx rfl (hb hby d1_9) rfl rfl ?_
    refine XS.lloadN X2.here hx rfl (hb hby d1_10) rfl ?_
    refine Stand.ldc2J X2 hx hown (mvT hZ (hw _ (List.mem_of_getElem? (i := 12) rfl))) rfl (hb hby d1_11) ?_
    refine XS.ldiv X2.here hx rfl (hb hby d1_14) rfl (by decide) ?_
    exact cont
  generalize hv3 : (p1 / (4 : Int64)) = v3
  have f5 := (F_a_quarterMs.other W2 (Or.inr (slot_ne (t := .long) (t' := .long) (Or.inr (hw _ (List.mem_of_getElem? (i := 14) rfl))) (Or.inr (hw _ (List.mem_of_getElem? (i := 11) rfl))) (by decide) (by decide) (by decide))))
  have f6 := (E_a.wr W2)
  obtain ⟨T4, h4, X4, e4, W4, st4⟩ := putF X2 hx hZ hown (host := "") (Or.inl (hw _ (List.mem_of_getElem? (i := 13) rfl))) Via.refl e2 f5 f6 (Or.inr ⟨(hw _ (List.mem_of_getElem? (i := 14) rfl)), rfl, hnm⟩) (hw _ (List.mem_of_getElem? (i := 2) rfl)) (ty := .long) (by decide) rfl rfl (g := (mkF m 15 #[.val (.ref a), .val (.long p1), .second, .val (.int p2), .val (.int p3)] [(.long v3), (.ref a)])) rfl rfl (hb hby d1_15)
  have fw4 := f5.same W4
  have N4 := Fr.snoc X4 N2 g_a
  have kk4 : Keep h0 h4 [a] := kk2.wr W4 (Or.inl (List.mem_of_getElem? (i := 0) rfl))
  have zp4 : n0 ≤ h4.size := Nat.le_trans Z0 kk4.1
  refine own_go (fun tgt cont => st4 tgt cont) ?_
  show own_Go p e below s (Q_rm1 Z a p1 p2 p3 u_iv u_q u_c u_o u_f u_s h0 n0) 0 0 (T4.setTop (mkF m 18 #[.val (.ref a), .val (.long p1), .second, .val (.int p2), .val (.int p3)] []))
  refine own_go (B := T4.setTop (mkF m 20 #[.val (.ref a), .val (.long p1), .second, .val (.int p2), .val (.int p3)] [(.int p2), (.ref a)])) (fun tgt cont => ?_) ?_
  · refine XS.aloadN X4.here hx rfl (hb hby d1_18) rfl rfl ?_
    refine XS.iloadN X4.here hx rfl (hb hby d1_19) rfl ?_
    exact cont
  have f8 := ((F_a_committers.other W2 (Or.inr (slot_ne (t := .int) (t' := .long) (Or.inr (hw _ (List.mem_of_getElem? (i := 16) rfl))) (Or.inr (hw _ (List.mem_of_getElem? (i := 11) rfl))) (by decide) (by decide) (by decide)))).other W4 (Or.inr (slot_ne (t := .int) (t' := .long) (Or.inr (hw _ (List.mem_of_getElem? (i := 16) rfl))) (Or.inr (hw _ (List.mem_of_getElem? (i := 14) rfl))) (by decide) (by decide) (by decide))))
  have f9 := (f6.wr W4)
  obtain ⟨T7, h7, X7, e7, W7, st7⟩ := putF X4 hx hZ hown (host := "") (Or.inl (hw _ (List.mem_of_getElem? (i := 15) rfl))) Via.refl e4 f8 f9 (Or.inr ⟨(hw _ (List.mem_of_getElem? (i := 16) rfl)), rfl, hnm⟩) (hw _ (List.mem_of_getElem? (i := 2) rfl)) (ty := .int) (by decide) rfl rfl (g := (mkF m 20 #[.val (.ref a), .val (.long p1), .second, .val (.int p2), .val (.int p3)] [(.int p2), (.ref a)])) rfl rfl (hb hby d1_20)
  have fw7 := f8.same W7
  have N7 := Fr.snoc X7 N4 g_a
  have kk7 : Keep h0 h7 [a] := kk4.wr W7 (Or.inl (List.mem_of_getElem? (i := 0) rfl))
  have zp7 : n0 ≤ h7.size := Nat.le_trans Z0 kk7.1
  refine own_go (fun tgt cont => st7 tgt cont) ?_
  show own_Go p e below s (Q_rm1 Z a p1 p2 p3 u_iv u_q u_c u_o u_f u_s h0 n0) 0 0 (T7.setTop (mkF m 23 #[.val (.ref a), .val (.long p1), .second, .val (.int p2), .val (.int p3)] []))
  refine own_go (B := T7.setTop (mkF m 27 #[.val (.ref a), .val (.long p1), .second, .val (.int p2), .val (.int p3)] [(.int (1 : Int32)), (.int p3), (.ref a)])) (fun tgt cont => ?_) ?_
  · refine XS.aloadN X7.here hx rfl (hb hby d1_23) rfl rfl ?_
    refine XS.iload X7.here hx rfl (hb hby d1_24) rfl ?_
    refine XT.iconstV X7.here hx rfl (1 : Int32) (hb hby d1_26) rfl ?_
    exact cont
  have K10 : ∀ (v11 : Int32) (hv11 : v11 = (if p3 = (1 : Int32) then (1 : Int32) else (0 : Int32))), own_Go p e below s (Q_rm1 Z a p1 p2 p3 u_iv u_q u_c u_o u_f u_s h0 n0) 0 0 (T7.setTop (mkF m 35 #[.val (.ref a), .val (.long p1), .second, .val (.int p2), .val (.int p3)] [(.int v11), (.ref a)])) := by
    intro v11 hv11
    have f13 := (((F_a_oneTask.other W2 (Or.inr (slot_ne (t := .boolean) (t' := .long) (Or.inr (hw _ (List.mem_of_getElem? (i := 18) rfl))) (Or.inr (hw _ (List.mem_of_getElem? (i := 11) rfl))) (by decide) (by decide) (by decide)))).other W4 (Or.inr (slot_ne (t := .boolean) (t' := .long) (Or.inr (hw _ (List.mem_of_getElem? (i := 18) rfl))) (Or.inr (hw _ (List.mem_of_getElem? (i := 14) rfl))) (by decide) (by decide) (by decide)))).other W7 (Or.inr (slot_ne (t := .boolean) (t' := .int) (Or.inr (hw _ (List.mem_of_getElem? (i := 18) rfl))) (Or.inr (hw _ (List.mem_of_getElem? (i := 16) rfl))) (by decide) (by decide) (by decide))))
    have f14 := (f9.wr W7)
    obtain ⟨T12, h12, X12, e12, W12, st12⟩ := putFN X7 hx hZ hown (hw _ (List.mem_of_getElem? (i := 17) rfl)) Via.refl e7 f13 f14 (Or.inr ⟨(hw _ (List.mem_of_getElem? (i := 18) rfl)), rfl, hnm⟩) (hw _ (List.mem_of_getElem? (i := 2) rfl)) (ty := .boolean) (v' := (.int (nar .boolean v11))) (by decide) rfl (fits_nar_bool _) (g := (mkF m 35 #[.val (.ref a), .val (.long p1), .second, .val (.int p2), .val (.int p3)] [(.int v11), (.ref a)])) rfl rfl (hb hby d1_35)
    have fw12 := f13.same W12
    have N12 := Fr.snoc X12 N7 g_a
    have kk12 : Keep h0 h12 [a] := kk7.wr W12 (Or.inl (List.mem_of_getElem? (i := 0) rfl))
    have zp12 : n0 ≤ h12.size := Nat.le_trans Z0 kk12.1
    refine own_go (fun tgt cont => st12 tgt cont) ?_
    show own_Go p e below s (Q_rm1 Z a p1 p2 p3 u_iv u_q u_c u_o u_f u_s h0 n0) 0 0 (T12.setTop (mkF m 38 #[.val (.ref a), .val (.long p1), .second, .val (.int p2), .val (.int p3)] []))
    refine own_go (B := T12.setTop (mkF m 40 #[.val (.ref a), .val (.long p1), .second, .val (.int p2), .val (.int p3)] [(.ref a), (.ref a)])) (fun tgt cont => ?_) ?_
    · refine XS.aloadN X12.here hx rfl (hb hby d1_38) rfl rfl ?_
      refine XS.aloadN X12.here hx rfl (hb hby d1_39) rfl rfl ?_
      exact cont
    obtain ⟨T15, X15, e15, st15⟩ := getF X12 hx hZ hown (host := "") (Or.inl (hw _ (List.mem_of_getElem? (i := 17) rfl))) Via.refl e12 fw12 (g := (mkF m 40 #[.val (.ref a), .val (.long p1), .second, .val (.int p2), .val (.int p3)] [(.ref a), (.ref a)])) rfl rfl (hb hby d1_40)
    refine own_go (fun tgt cont => st15 tgt cont) ?_
    show own_Go p e below s (Q_rm1 Z a p1 p2 p3 u_iv u_q u_c u_o u_f u_s h0 n0) 0 0 (T15.setTop (mkF m 43 #[.val (.ref a), .val (.long p1), .second, .val (.int p2), .val (.int p3)] [(.int (nar .boolean v11)), (.ref a)]))
    have K16 : ∀ (T16 : State) (L16 : List Loc) (v17 : Int64) (X16 : Stand p l e ({ frames := 1, cells := 0, slots := 0, locals := 12 } : Room) s m #[(.ref a), (.long p1), (.int p2), (.int p3)] below meth c T16 L16 0 0) (e16 : T16.heap = h12) (N16 : Fr n0 L16) (hv17 : v17 = (if (nar .boolean v11) = 0 then v3 else (0 : Int64))), own_Go p e below s (Q_rm1 Z a p1 p2 p3 u_iv u_q u_c u_o u_f u_s h0 n0) 0 0 (T16.setTop (mkF m 54 #[.val (.ref a), .val (.long p1), .second, .val (.int p2), .val (.int p3)] [(.long v17), (.ref a)])) := by
      intro T16 L16 v17 X16 e16 N16 hv17
      have f19 := ((((F_a_firstCommitMs.other W2 (Or.inr (slot_ne (t := .long) (t' := .long) (Or.inr (hw _ (List.mem_of_getElem? (i := 20) rfl))) (Or.inr (hw _ (List.mem_of_getElem? (i := 11) rfl))) (by decide) (by decide) (by decide)))).other W4 (Or.inr (slot_ne (t := .long) (t' := .long) (Or.inr (hw _ (List.mem_of_getElem? (i := 20) rfl))) (Or.inr (hw _ (List.mem_of_getElem? (i := 14) rfl))) (by decide) (by decide) (by decide)))).other W7 (Or.inr (slot_ne (t := .long) (t' := .int) (Or.inr (hw _ (List.mem_of_getElem? (i := 20) rfl))) (Or.inr (hw _ (List.mem_of_getElem? (i := 16) rfl))) (by decide) (by decide) (by decide)))).other W12 (Or.inr (slot_ne (t := .long) (t' := .boolean) (Or.inr (hw _ (List.mem_of_getElem? (i := 20) rfl))) (Or.inr (hw _ (List.mem_of_getElem? (i := 18) rfl))) (by decide) (by decide) (by decide))))
      have f20 := (f14.wr W12)
      obtain ⟨T18, h18, X18, e18, W18, st18⟩ := putF X16 hx hZ hown (host := "") (Or.inl (hw _ (List.mem_of_getElem? (i := 19) rfl))) Via.refl e16 f19 f20 (Or.inr ⟨(hw _ (List.mem_of_getElem? (i := 20) rfl)), rfl, hnm⟩) (hw _ (List.mem_of_getElem? (i := 2) rfl)) (ty := .long) (by decide) rfl rfl (g := (mkF m 54 #[.val (.ref a), .val (.long p1), .second, .val (.int p2), .val (.int p3)] [(.long v17), (.ref a)])) rfl rfl (hb hby d1_54)
      have fw18 := f19.same W18
      have N18 := Fr.snoc X18 N16 g_a
      have kk18 : Keep h0 h18 [a] := kk12.wr W18 (Or.inl (List.mem_of_getElem? (i := 0) rfl))
      have zp18 : n0 ≤ h18.size := Nat.le_trans Z0 kk18.1
      refine own_go (fun tgt cont => st18 tgt cont) ?_
      show own_Go p e below s (Q_rm1 Z a p1 p2 p3 u_iv u_q u_c u_o u_f u_s h0 n0) 0 0 (T18.setTop (mkF m 57 #[.val (.ref a), .val (.long p1), .second, .val (.int p2), .val (.int p3)] []))
      refine own_go (B := T18.setTop (mkF m 60 #[.val (.ref a), .val (.long p1), .second, .val (.int p2), .val (.int p3)] [(.int (1 : Int32)), (.int p2), (.ref a)])) (fun tgt cont => ?_) ?_
      · refine XS.aloadN X18.here hx rfl (hb hby d1_57) rfl rfl ?_
        refine XS.iloadN X18.here hx rfl (hb hby d1_58) rfl ?_
        refine XT.iconstV X18.here hx rfl (1 : Int32) (hb hby d1_59) rfl ?_
        exact cont
      have K21 : ∀ (T21 : State) (L21 : List Loc) (v22 : Int64) (X21 : Stand p l e ({ frames := 1, cells := 0, slots := 0, locals := 12 } : Room) s m #[(.ref a), (.long p1), (.int p2), (.int p3)] below meth c T21 L21 0 0) (e21 : T21.heap = h18) (N21 : Fr n0 L21) (hv22 : v22 = (if (1 : Int32) < p2 then ((p1 - ((2 : Int64) * v3)) / ((p2 - (1 : Int32)).toInt64)) else (0 : Int64))), own_Go p e below s (Q_rm1 Z a p1 p2 p3 u_iv u_q u_c u_o u_f u_s h0 n0) 0 0 (T21.setTop (mkF m 82 #[.val (.ref a), .val (.long p1), .second, .val (.int p2), .val (.int p3)] [(.long v22), (.ref a)])) := by
        intro T21 L21 v22 X21 e21 N21 hv22
        have f24 := (((((F_a_standInStepMs.other W2 (Or.inr (slot_ne (t := .long) (t' := .long) (Or.inr (hw _ (List.mem_of_getElem? (i := 23) rfl))) (Or.inr (hw _ (List.mem_of_getElem? (i := 11) rfl))) (by decide) (by decide) (by decide)))).other W4 (Or.inr (slot_ne (t := .long) (t' := .long) (Or.inr (hw _ (List.mem_of_getElem? (i := 23) rfl))) (Or.inr (hw _ (List.mem_of_getElem? (i := 14) rfl))) (by decide) (by decide) (by decide)))).other W7 (Or.inr (slot_ne (t := .long) (t' := .int) (Or.inr (hw _ (List.mem_of_getElem? (i := 23) rfl))) (Or.inr (hw _ (List.mem_of_getElem? (i := 16) rfl))) (by decide) (by decide) (by decide)))).other W12 (Or.inr (slot_ne (t := .long) (t' := .boolean) (Or.inr (hw _ (List.mem_of_getElem? (i := 23) rfl))) (Or.inr (hw _ (List.mem_of_getElem? (i := 18) rfl))) (by decide) (by decide) (by decide)))).other W18 (Or.inr (slot_ne (t := .long) (t' := .long) (Or.inr (hw _ (List.mem_of_getElem? (i := 23) rfl))) (Or.inr (hw _ (List.mem_of_getElem? (i := 20) rfl))) (by decide) (by decide) (by decide))))
        have f25 := (f20.wr W18)
        obtain ⟨T23, h23, X23, e23, W23, st23⟩ := putF X21 hx hZ hown (host := "") (Or.inl (hw _ (List.mem_of_getElem? (i := 22) rfl))) Via.refl e21 f24 f25 (Or.inr ⟨(hw _ (List.mem_of_getElem? (i := 23) rfl)), rfl, hnm⟩) (hw _ (List.mem_of_getElem? (i := 2) rfl)) (ty := .long) (by decide) rfl rfl (g := (mkF m 82 #[.val (.ref a), .val (.long p1), .second, .val (.int p2), .val (.int p3)] [(.long v22), (.ref a)])) rfl rfl (hb hby d1_82)
        have fw23 := f24.same W23
        have N23 := Fr.snoc X23 N21 g_a
        have kk23 : Keep h0 h23 [a] := kk18.wr W23 (Or.inl (List.mem_of_getElem? (i := 0) rfl))
        have zp23 : n0 ≤ h23.size := Nat.le_trans Z0 kk23.1
        refine own_go (fun tgt cont => st23 tgt cont) ?_
        show own_Go p e below s (Q_rm1 Z a p1 p2 p3 u_iv u_q u_c u_o u_f u_s h0 n0) 0 0 (T23.setTop (mkF m 85 #[.val (.ref a), .val (.long p1), .second, .val (.int p2), .val (.int p3)] []))
        refine own_end X23 (v := none) (fun _ => rfl) hlk ?_ (by decide) (by decide) (fun fs hl => X23.returnOut hx Bd.returns (hb hby d1_85) hl)
        have f26 := (f25.wr W23)
        have f27 := (((((fw2.other W4 (Or.inr (slot_ne (t := .long) (t' := .long) (Or.inr (hw _ (List.mem_of_getElem? (i := 11) rfl))) (Or.inr (hw _ (List.mem_of_getElem? (i := 14) rfl))) (by decide) (by decide) (by decide)))).other W7 (Or.inr (slot_ne (t := .long) (t' := .int) (Or.inr (hw _ (List.mem_of_getElem? (i := 11) rfl))) (Or.inr (hw _ (List.mem_of_getElem? (i := 16) rfl))) (by decide) (by decide) (by decide)))).other W12 (Or.inr (slot_ne (t := .long) (t' := .boolean) (Or.inr (hw _ (List.mem_of_getElem? (i := 11) rfl))) (Or.inr (hw _ (List.mem_of_getElem? (i := 18) rfl))) (by decide) (by decide) (by decide)))).other W18 (Or.inr (slot_ne (t := .long) (t' := .long) (Or.inr (hw _ (List.mem_of_getElem? (i := 11) rfl))) (Or.inr (hw _ (List.mem_of_getElem? (i := 20) rfl))) (by decide) (by decide) (by decide)))).other W23 (Or.inr (slot_ne (t := .long) (t' := .long) (Or.inr (hw _ (List.mem_of_getElem? (i := 11) rfl))) (Or.inr (hw _ (List.mem_of_getElem? (i := 23) rfl))) (by decide) (by decide) (by decide))))
        have f28 := ((((fw4.other W7 (Or.inr (slot_ne (t := .long) (t' := .int) (Or.inr (hw _ (List.mem_of_getElem? (i := 14) rfl))) (Or.inr (hw _ (List.mem_of_getElem? (i := 16) rfl))) (by decide) (by decide) (by decide)))).other W12 (Or.inr (slot_ne (t := .long) (t' := .boolean) (Or.inr (hw _ (List.mem_of_getElem? (i := 14) rfl))) (Or.inr (hw _ (List.mem_of_getElem? (i := 18) rfl))) (by decide) (by decide) (by decide)))).other W18 (Or.inr (slot_ne (t := .long) (t' := .long) (Or.inr (hw _ (List.mem_of_getElem? (i := 14) rfl))) (Or.inr (hw _ (List.mem_of_getElem? (i := 20) rfl))) (by decide) (by decide) (by decide)))).other W23 (Or.inr (slot_ne (t := .long) (t' := .long) (Or.inr (hw _ (List.mem_of_getElem? (i := 14) rfl))) (Or.inr (hw _ (List.mem_of_getElem? (i := 23) rfl))) (by decide) (by decide) (by decide))))
        have f29 := (((fw7.other W12 (Or.inr (slot_ne (t := .int) (t' := .boolean) (Or.inr (hw _ (List.mem_of_getElem? (i := 16) rfl))) (Or.inr (hw _ (List.mem_of_getElem? (i := 18) rfl))) (by decide) (by decide) (by decide)))).other W18 (Or.inr (slot_ne (t := .int) (t' := .long) (Or.inr (hw _ (List.mem_of_getElem? (i := 16) rfl))) (Or.inr (hw _ (List.mem_of_getElem? (i := 20) rfl))) (by decide) (by decide) (by decide)))).other W23 (Or.inr (slot_ne (t := .int) (t' := .long) (Or.inr (hw _ (List.mem_of_getElem? (i := 16) rfl))) (Or.inr (hw _ (List.mem_of_getElem? (i := 23) rfl))) (by decide) (by decide) (by decide))))
        have f30 := ((fw12.other W18 (Or.inr (slot_ne (t := .boolean) (t' := .long) (Or.inr (hw _ (List.mem_of_getElem? (i := 18) rfl))) (Or.inr (hw _ (List.mem_of_getElem? (i := 20) rfl))) (by decide) (by decide) (by decide)))).other W23 (Or.inr (slot_ne (t := .boolean) (t' := .long) (Or.inr (hw _ (List.mem_of_getElem? (i := 18) rfl))) (Or.inr (hw _ (List.mem_of_getElem? (i := 23) rfl))) (by decide) (by decide) (by decide))))
        have f31 := (fw18.other W23 (Or.inr (slot_ne (t := .long) (t' := .long) (Or.inr (hw _ (List.mem_of_getElem? (i := 20) rfl))) (Or.inr (hw _ (List.mem_of_getElem? (i := 23) rfl))) (by decide) (by decide) (by decide))))
        rw [e23]
        subst hv3 hv11 hv17 hv22
        exact ⟨rfl, N23, kk23, f26, f27, (by unfold own_init_quarterMs; exact f28), f29, (by unfold own_init_oneTask; exact f30), (by unfold own_init_firstCommitMs; exact f31), (by unfold own_init_standInStepMs; exact fw23)⟩
      by_cases hc32 : (1 : Int32) < p2
      ·
        refine own_go (B := T18.setTop (mkF m 68 #[.val (.ref a), .val (.long p1), .second, .val (.int p2), .val (.int p3)] [(.ref a), (.long (2 : Int64)), (.long p1), (.ref a)])) (fun tgt cont => ?_) ?_
        · refine XS.icmpNo X18.here hx rfl (hb hby d1_60) rfl (XT.ii_le_f hc32) ?_
          refine XS.lloadN X18.here hx rfl (hb hby d1_63) rfl ?_
          refine Stand.ldc2J X18 hx hown (mvT hZ (hw _ (List.mem_of_getElem? (i := 21) rfl))) rfl (hb hby d1_64) ?_
          refine XS.aloadN X18.here hx rfl (hb hby d1_67) rfl rfl ?_
          exact cont
        have f34 := (((fw4.other W7 (Or.inr (slot_ne (t := .long) (t' := .int) (Or.inr (hw _ (List.mem_of_getElem? (i := 14) rfl))) (Or.inr (hw _ (List.mem_of_getElem? (i := 16) rfl))) (by decide) (by decide) (by decide)))).other W12 (Or.inr (slot_ne (t := .long) (t' := .boolean) (Or.inr (hw _ (List.mem_of_getElem? (i := 14) rfl))) (Or.inr (hw _ (List.mem_of_getElem? (i := 18) rfl))) (by decide) (by decide) (by decide)))).other W18 (Or.inr (slot_ne (t := .long) (t' := .long) (Or.inr (hw _ (List.mem_of_getElem? (i := 14) rfl))) (Or.inr (hw _ (List.mem_of_getElem? (i := 20) rfl))) (by decide) (by decide) (by decide))))
        obtain ⟨T33, X33, e33, st33⟩ := getF X18 hx hZ hown (host := "") (Or.inl (hw _ (List.mem_of_getElem? (i := 13) rfl))) Via.refl e18 f34 (g := (mkF m 68 #[.val (.ref a), .val (.long p1), .second, .val (.int p2), .val (.int p3)] [(.ref a), (.long (2 : Int64)), (.long p1), (.ref a)])) rfl rfl (hb hby d1_68)
        refine own_go (fun tgt cont => st33 tgt cont) ?_
        show own_Go p e below s (Q_rm1 Z a p1 p2 p3 u_iv u_q u_c u_o u_f u_s h0 n0) 0 0 (T33.setTop (mkF m 71 #[.val (.ref a), .val (.long p1), .second, .val (.int p2), .val (.int p3)] [(.long v3), (.long (2 : Int64)), (.long p1), (.ref a)]))
        refine own_go (B := T33.setTop (mkF m 82 #[.val (.ref a), .val (.long p1), .second, .val (.int p2), .val (.int p3)] [(.long ((p1 - ((2 : Int64) * v3)) / ((p2 - (1 : Int32)).toInt64))), (.ref a)])) (fun tgt cont => ?_) ?_
        · refine XS.lmul X33.here hx rfl (hb hby d1_71) rfl ?_
          refine XS.lsub X33.here hx rfl (hb hby d1_72) rfl ?_
          refine XS.iloadN X33.here hx rfl (hb hby d1_73) rfl ?_
          refine XT.iconstV X33.here hx rfl (1 : Int32) (hb hby d1_74) rfl ?_
          refine XS.isub X33.here hx rfl (hb hby d1_75) rfl ?_
          refine XS.i2l X33.here hx rfl (hb hby d1_76) rfl ?_
          refine XS.ldiv X33.here hx rfl (hb hby d1_77) rfl (own_nz hc32) ?_
          refine XS.goto X33.here hx rfl (pc0 := 78) (pc' := 82) rfl (hb hby d1_78) (by decide) (by decide) ?_
          exact cont
        exact K21 _ _ ((p1 - ((2 : Int64) * v3)) / ((p2 - (1 : Int32)).toInt64)) (own_wide X33 (by decide) (by decide)) e33 N18 (by simp only [if_pos hc32])
      ·
        refine own_go (B := T18.setTop (mkF m 82 #[.val (.ref a), .val (.long p1), .second, .val (.int p2), .val (.int p3)] [(.long (0 : Int64)), (.ref a)])) (fun tgt cont => ?_) ?_
        · refine XS.icmpYes X18.here hx rfl (pc0 := 60) (pc' := 81) rfl (hb hby d1_60) rfl (XT.ii_le_t hc32) (by decide) (by decide) ?_
          refine XT.lconstV X18.here hx rfl (0 : Int64) (hb hby d1_81) rfl ?_
          exact cont
        exact K21 _ _ (0 : Int64) (own_wide X18 (by decide) (by decide)) e18 N18 (by simp only [if_neg hc32])
    by_cases hc35 : (nar .boolean v11) = 0
    ·
      refine own_go (B := T15.setTop (mkF m 51 #[.val (.ref a), .val (.long p1), .second, .val (.int p2), .val (.int p3)] [(.ref a), (.ref a)])) (fun tgt cont => ?_) ?_
      · refine XS.ifYes X15.here hx rfl (pc0 := 43) (pc' := 50) rfl (hb hby d1_43) rfl (XT.i0_eq_t hc35) (by decide) (by decide) ?_
        refine XS.aloadN X15.here hx rfl (hb hby d1_50) rfl rfl ?_
        exact cont
      have f37 := ((fw4.other W7 (Or.inr (slot_ne (t := .long) (t' := .int) (Or.inr (hw _ (List.mem_of_getElem? (i := 14) rfl))) (Or.inr (hw _ (List.mem_of_getElem? (i := 16) rfl))) (by decide) (by decide) (by decide)))).other W12 (Or.inr (slot_ne (t := .long) (t' := .boolean) (Or.inr (hw _ (List.mem_of_getElem? (i := 14) rfl))) (Or.inr (hw _ (List.mem_of_getElem? (i := 18) rfl))) (by decide) (by decide) (by decide))))
      obtain ⟨T36, X36, e36, st36⟩ := getF X15 hx hZ hown (host := "") (Or.inl (hw _ (List.mem_of_getElem? (i := 13) rfl))) Via.refl e15 f37 (g := (mkF m 51 #[.val (.ref a), .val (.long p1), .second, .val (.int p2), .val (.int p3)] [(.ref a), (.ref a)])) rfl rfl (hb hby d1_51)
      refine own_go (fun tgt cont => st36 tgt cont) ?_
      show own_Go p e below s (Q_rm1 Z a p1 p2 p3 u_iv u_q u_c u_o u_f u_s h0 n0) 0 0 (T36.setTop (mkF m 54 #[.val (.ref a), .val (.long p1), .second, .val (.int p2), .val (.int p3)] [(.long v3), (.ref a)]))
      exact K16 _ _ v3 (own_wide X36 (by decide) (by decide)) e36 N12 (by simp only [if_pos hc35])
    ·
      refine own_go (B := T15.setTop (mkF m 54 #[.val (.ref a), .val (.long p1), .second, .val (.int p2), .val (.int p3)] [(.long (0 : Int64)), (.ref a)])) (fun tgt cont => ?_) ?_
      · refine XS.ifNo X15.here hx rfl (hb hby d1_43) rfl (XT.i0_eq_f hc35) ?_
        refine XT.lconstV X15.here hx rfl (0 : Int64) (hb hby d1_46) rfl ?_
        refine XS.goto X15.here hx rfl (pc0 := 47) (pc' := 54) rfl (hb hby d1_47) (by decide) (by decide) ?_
        exact cont
      exact K16 _ _ (0 : Int64) (own_wide X15 (by decide) (by decide)) e15 N12 (by simp only [if_neg hc35])
  by_cases hc38 : p3 = (1 : Int32)
  ·
    refine own_go (B := T7.setTop (mkF m 35 #[.val (.ref a), .val (.long p1), .second, .val (.int p2), .val (.int p3)] [(.int (1 : Int32)), (.ref a)])) (fun tgt cont => ?_) ?_
    · refine XS.icmpNo X7.here hx rfl (hb hby d1_27) rfl (XT.ii_ne_f hc38) ?_
      refine XT.iconstV X7.here hx rfl (1 : Int32) (hb hby d1_30) rfl ?_
      refine XS.goto X7.here hx rfl (pc0 := 31) (pc' := 35) rfl (hb hby d1_31) (by decide) (by decide) ?_
      exact cont
    exact K10 (1 : Int32) (by simp only [if_pos hc38])
  ·
    refine own_go (B := T7.setTop (mkF m 35 #[.val (.ref a), .val (.long p1), .second, .val (.int p2), .val (.int p3)] [(.int (0 : Int32)), (.ref a)])) (fun tgt cont => ?_) ?_
    · refine XS.icmpYes X7.here hx rfl (pc0 := 27) (pc' := 34) rfl (hb hby d1_27) rfl (XT.ii_ne_t hc38) (by decide) (by decide) ?_
      refine XT.iconstV X7.here hx rfl (0 : Int32) (hb hby d1_34) rfl ?_
      exact cont
    exact K10 (0 : Int32) (by simp only [if_neg hc38])
def own_fm (p1 : Int64) (p2 : Int64) : Int64 := if (p1 ^^^ p2) < (0 : Int64) then if (p1 % p2) = (0 : Int64) then (p1 % p2) else ((p1 % p2) + p2) else (p1 % p2)
def Q_rm4 (Z : State) (p1 : Int64) (p2 : Int64) (h0 : Heap) (n0 : Nat) (v : Option Value) (h : Heap) (L : List Loc) : Prop := v = some (.long (own_fm p1 p2)) ∧ Fr n0 L ∧ h = h0
theorem d4_0 : decode jdk_29_method_52_code 0 = .ok (.lload_n 0, 1) := by decide +kernel
theorem d4_1 : decode jdk_29_method_52_code 1 = .ok (.lload_n 2, 1) := by decide +kernel
theorem d4_2 : decode jdk_29_method_52_code 2 = .ok (.lrem, 1) := by decide +kernel
theorem d4_3 : decode jdk_29_method_52_code 3 = .ok (.lstore 4, 2) := by decide +kernel
theorem d4_5 : decode jdk_29_method_52_code 5 = .ok (.lload_n 0, 1) := by decide +kernel
theorem d4_6 : decode jdk_29_method_52_code 6 = .ok (.lload_n 2, 1) := by decide +kernel
theorem d4_7 : decode jdk_29_method_52_code 7 = .ok (.lxor, 1) := by decide +kernel
theorem d4_8 : decode jdk_29_method_52_code 8 = .ok (.lconst 0, 1) := by decide +kernel
theorem d4_9 : decode jdk_29_method_52_code 9 = .ok (.lcmp, 1) := by decide +kernel
theorem d4_10 : decode jdk_29_method_52_code 10 = .ok (.ifCond .ge 15, 3) := by decide +kernel
theorem d4_13 : decode jdk_29_method_52_code 13 = .ok (.lload 4, 2) := by decide +kernel
theorem d4_15 : decode jdk_29_method_52_code 15 = .ok (.lconst 0, 1) := by decide +kernel
theorem d4_16 : decode jdk_29_method_52_code 16 = .ok (.lcmp, 1) := by decide +kernel
theorem d4_17 : decode jdk_29_method_52_code 17 = .ok (.ifCond .eq 8, 3) := by decide +kernel
theorem d4_20 : decode jdk_29_method_52_code 20 = .ok (.lload 4, 2) := by decide +kernel
theorem d4_22 : decode jdk_29_method_52_code 22 = .ok (.lload_n 2, 1) := by decide +kernel
theorem d4_23 : decode jdk_29_method_52_code 23 = .ok (.ladd, 1) := by decide +kernel
theorem d4_24 : decode jdk_29_method_52_code 24 = .ok (.lreturn, 1) := by decide +kernel
theorem d4_25 : decode jdk_29_method_52_code 25 = .ok (.lload 4, 2) := by decide +kernel
theorem d4_27 : decode jdk_29_method_52_code 27 = .ok (.lreturn, 1) := by decide +kernel
set_option maxRecDepth 65536 in
set_option maxHeartbeats 40000000 in
theorem rm4 (l : Launch) (Z : State) (a0 : Array Value) (hw : ∀ d ∈ tables_1, d.before a0 Z = true) (ws : List Jvm.Cond) (p1 : Int64) (p2 : Int64) (h0 : Heap) (n0 : Nat) (Z0 : n0 ≤ h0.size) (hnz : p2 ≠ 0) :
    MetFree l (⟨"java/lang/Math", "floorMod", "(JJ)J"⟩ : MethodName) (head1 (Jvm.Cond.code (⟨"java/lang/Math", "floorMod", "(JJ)J"⟩ : MethodName) jdk_29_method_52_code 6 (some .long) :: ws) ({ frames := 0, cells := 0, slots := 0, locals := 0 } : Room)) (fun aa U => aa = #[(.long p1), (.long p2)] ∧ Z.Warmed39 U.vm ∧ U.heap = h0) (fun _ _ _ _ _ => True) (fun _ U o U' => ∃ v L, o = .returned v ∧ Q_rm4 Z p1 p2 h0 n0 v U'.heap L ∧ FrameEnd U o U' L ({ frames := 0, cells := 0, slots := 0, locals := 0 } : Room).cells ({ frames := 0, cells := 0, slots := 0, locals := 0 } : Room).slots) := by
  refine MetFree.of_bodySF (Jvm.Free.JP.mathPlain rfl (by decide +kernel)) hisR ?_
  intro p e s m args below meth c s₁ Bd hml0 hP hK
  obtain ⟨rfl, hZ, hh⟩ := hP
  have hx := Bd.exec
  have hby := Bd.bytes
  have hml : c.maxLocals = 6 := hml0
  have hlk : meth.locks = false := BodyLoose.notSynchronized Bd
  have hown : s.vm.findClass "java/lang/Math" = some m.cls := findClass_of_methodNamed Bd.named
  have hnm := (name_of_methodNamed Bd.named Bd.method).1
  have X0 : Stand p l e ({ frames := 0, cells := 0, slots := 0, locals := 0 } : Room) s m #[(.long p1), (.long p2)] below meth c s₁ [] 0 0 := Stand.of_body Bd
  have e0 : s₁.heap = h0 := by rw [← hh, Bd.state]; rfl
  have N0 := Fr.nil n0
  show own_Go p e below s (Q_rm4 Z p1 p2 h0 n0) 0 0 (s₁.setTop (entryFrame m #[(.long p1), (.long p2)] 6))
  refine own_go (B := s₁.setTop (mkF m 0 #[.val (.long p1), .second, .val (.long p2), .second, .unset, .unset] [])) (fun tgt cont => (XT.entry rfl).trans cont) ?_
  refine own_go (B := s₁.setTop (mkF m 10 #[.val (.long p1), .second, .val (.long p2), .second, .val (.long (p1 % p2)), .second] [(.int (XT.cmpL (p1 ^^^ p2) (0 : Int64)))])) (fun tgt cont => ?_) ?_
  · refine XS.lloadN X0.here hx rfl (hb hby d4_0) rfl ?_
    refine XS.lloadN X0.here hx rfl (hb hby d4_1) rfl ?_
    refine own_lrem X0.here hx rfl (hb hby d4_2) rfl hnz ?_
    refine XS.lstore X0.here hx rfl (hb hby d4_3) rfl (l' := #[.val (.long p1), .second, .val (.long p2), .second, .val (.long (p1 % p2)), .second]) rfl ?_
    refine XS.lloadN X0.here hx rfl (hb hby d4_5) rfl ?_
    refine XS.lloadN X0.here hx rfl (hb hby d4_6) rfl ?_
    refine XS.lxor X0.here hx rfl (hb hby d4_7) rfl ?_
    refine XT.lconstV X0.here hx rfl (0 : Int64) (hb hby d4_8) rfl ?_
    refine XT.lcmp X0.here hx rfl (hb hby d4_9) rfl ?_
    exact cont
  by_cases hc1 : (p1 ^^^ p2) < (0 : Int64)
  ·
    refine own_go (B := s₁.setTop (mkF m 17 #[.val (.long p1), .second, .val (.long p2), .second, .val (.long (p1 % p2)), .second] [(.int (XT.cmpL (p1 % p2) (0 : Int64)))])) (fun tgt cont => ?_) ?_
    · refine XS.ifNo X0.here hx rfl (hb hby d4_10) rfl (XT.ll_ge_f hc1) ?_
      refine XS.lload X0.here hx rfl (hb hby d4_13) rfl ?_
      refine XT.lconstV X0.here hx rfl (0 : Int64) (hb hby d4_15) rfl ?_
      refine XT.lcmp X0.here hx rfl (hb hby d4_16) rfl ?_
      exact cont
    by_cases hc2 : (p1 % p2) = (0 : Int64)
    ·
      refine own_go (B := s₁.setTop (mkF m 27 #[.val (.long p1), .second, .val (.long p2), .second, .val (.long (p1 % p2)), .second] [(.long (p1 % p2))])) (fun tgt cont => ?_) ?_
      · refine XS.ifYes X0.here hx rfl (pc0 := 17) (pc' := 25) rfl (hb hby d4_17) rfl (XT.ll_eq_t hc2) (by decide) (by decide) ?_
        refine XS.lload X0.here hx rfl (hb hby d4_25) rfl ?_
        exact cont
      refine own_end X0 (v := some (.long (p1 % p2))) (fun h => by rw [Bd.returns] at h; cases h) hlk ?_ (by decide) (by decide) (fun fs hl => retOut X0 hx Bd.returns rfl (Or.inr (Or.inl ⟨rfl, rfl, _, rfl⟩)) (hb hby d4_27) hl)
      exact ⟨(by unfold own_fm; first | exact rfl | (simp only [if_pos hc1, if_pos hc2]; first | done | exact rfl)), N0, e0⟩
    ·
      refine own_go (B := s₁.setTop (mkF m 24 #[.val (.long p1), .second, .val (.long p2), .second, .val (.long (p1 % p2)), .second] [(.long ((p1 % p2) + p2))])) (fun tgt cont => ?_) ?_
      · refine XS.ifNo X0.here hx rfl (hb hby d4_17) rfl (XT.ll_eq_f hc2) ?_
        refine XS.lload X0.here hx rfl (hb hby d4_20) rfl ?_
        refine XS.lloadN X0.here hx rfl (hb hby d4_22) rfl ?_
        refine XS.ladd X0.here hx rfl (hb hby d4_23) rfl ?_
        exact cont
      refine own_end X0 (v := some (.long ((p1 % p2) + p2))) (fun h => by rw [Bd.returns] at h; cases h) hlk ?_ (by decide) (by decide) (fun fs hl => retOut X0 hx Bd.returns rfl (Or.inr (Or.inl ⟨rfl, rfl, _, rfl⟩)) (hb hby d4_24) hl)
      exact ⟨(by unfold own_fm; first | exact rfl | (simp only [if_pos hc1, if_neg hc2]; first | done | exact rfl)), N0, e0⟩
  ·
    refine own_go (B := s₁.setTop (mkF m 27 #[.val (.long p1), .second, .val (.long p2), .second, .val (.long (p1 % p2)), .second] [(.long (p1 % p2))])) (fun tgt cont => ?_) ?_
    · refine XS.ifYes X0.here hx rfl (pc0 := 10) (pc' := 25) rfl (hb hby d4_10) rfl (XT.ll_ge_t hc1) (by decide) (by decide) ?_
      refine XS.lload X0.here hx rfl (hb hby d4_25) rfl ?_
      exact cont
    refine own_end X0 (v := some (.long (p1 % p2))) (fun h => by rw [Bd.returns] at h; cases h) hlk ?_ (by decide) (by decide) (fun fs hl => retOut X0 hx Bd.returns rfl (Or.inr (Or.inl ⟨rfl, rfl, _, rfl⟩)) (hb hby d4_27) hl)
    exact ⟨(by unfold own_fm; first | exact rfl | (simp only [if_neg hc1]; first | done | exact rfl)), N0, e0⟩
def own_is_r (p1 : Int64) (u_iv : Int64) : Int64 := (p1 - ((own_fm p1 u_iv)))
def Q_rm3 (Z : State) (a : Addr) (p1 : Int64) (u_iv : Int64) (h0 : Heap) (n0 : Nat) (v : Option Value) (h : Heap) (L : List Loc) : Prop := v = some (.long (own_is_r p1 u_iv)) ∧ Fr n0 L ∧ h = h0
theorem own_pd0 : parseMethodDescriptor "(JJ)J" = some ⟨[.long, .long], some .long⟩ := by decide +kernel
theorem d3_0 : decode prog_1_method_2_code 0 = .ok (.lload_n 1, 1) := by decide +kernel
theorem d3_1 : decode prog_1_method_2_code 1 = .ok (.lload_n 1, 1) := by decide +kernel
theorem d3_2 : decode prog_1_method_2_code 2 = .ok (.aload_n 0, 1) := by decide +kernel
theorem d3_3 : decode prog_1_method_2_code 3 = .ok (.getfield 7, 3) := by decide +kernel
theorem d3_6 : decode prog_1_method_2_code 6 = .ok (.invokestatic 34, 3) := by decide +kernel
theorem d3_9 : decode prog_1_method_2_code 9 = .ok (.lsub, 1) := by decide +kernel
theorem d3_10 : decode prog_1_method_2_code 10 = .ok (.lreturn, 1) := by decide +kernel
set_option maxRecDepth 65536 in
set_option maxHeartbeats 40000000 in
theorem rm3 (l : Launch) (Z : State) (a0 : Array Value) (hw : ∀ d ∈ tables_1, d.before a0 Z = true) (ws : List Jvm.Cond) (a : Addr) (p1 : Int64) (u_iv : Int64) (h0 : Heap) (n0 : Nat) (Z0 : n0 ≤ h0.size) (E_a : Exa Z h0 a "com/example/keyfold/keyfold/CommitSchedule") (F_a_intervalMs : Fld Z h0 a "com/example/keyfold/keyfold/CommitSchedule" "intervalMs" "J" (.long u_iv)) (hnz : u_iv ≠ 0) :
    MetFree l (⟨"com/example/keyfold/keyfold/CommitSchedule", "intervalStart", "(J)J"⟩ : MethodName) (head1 (Jvm.Cond.code (⟨"com/example/keyfold/keyfold/CommitSchedule", "intervalStart", "(J)J"⟩ : MethodName) prog_1_method_2_code 3 (some .long) :: ws) ({ frames := 1, cells := 0, slots := 0, locals := 19 } : Room)) (fun aa U => aa = #[(.ref a), (.long p1)] ∧ Z.Warmed39 U.vm ∧ U.heap = h0) (fun _ _ _ _ _ => True) (fun _ U o U' => ∃ v L, o = .returned v ∧ Q_rm3 Z a p1 u_iv h0 n0 v U'.heap L ∧ FrameEnd U o U' L ({ frames := 1, cells := 0, slots := 0, locals := 19 } : Room).cells ({ frames := 1, cells := 0, slots := 0, locals := 19 } : Room).slots) := by
  refine MetFree.of_bodySF (plainFor_of_name own_pn0) hisR ?_
  intro p e s m args below meth c s₁ Bd hml0 hP hK
  obtain ⟨rfl, hZ, hh⟩ := hP
  have hx := Bd.exec
  have hby := Bd.bytes
  have hml : c.maxLocals = 3 := hml0
  have hlk : meth.locks = false := BodyLoose.notSynchronized Bd
  have hown : s.vm.findClass "com/example/keyfold/keyfold/CommitSchedule" = some m.cls := findClass_of_methodNamed Bd.named
  have hnm := (name_of_methodNamed Bd.named Bd.method).1
  have X0 : Stand p l e ({ frames := 1, cells := 0, slots := 0, locals := 19 } : Room) s m #[(.ref a), (.long p1)] below meth c s₁ [] 0 0 := Stand.of_body Bd
  have e0 : s₁.heap = h0 := by rw [← hh, Bd.state]; rfl
  have N0 := Fr.nil n0
  show own_Go p e below s (Q_rm3 Z a p1 u_iv h0 n0) 0 0 (s₁.setTop (entryFrame m #[(.ref a), (.long p1)] 3))
  refine own_go (B := s₁.setTop (mkF m 0 #[.val (.ref a), .val (.long p1), .second] [])) (fun tgt cont => (XT.entry rfl).trans cont) ?_
  refine own_go (B := s₁.setTop (mkF m 3 #[.val (.ref a), .val (.long p1), .second] [(.ref a), (.long p1), (.long p1)])) (fun tgt cont => ?_) ?_
  · refine XS.lloadN X0.here hx rfl (hb hby d3_0) rfl ?_
    refine XS.lloadN X0.here hx rfl (hb hby d3_1) rfl ?_
    refine XS.aloadN X0.here hx rfl (hb hby d3_2) rfl rfl ?_
    exact cont
  obtain ⟨T1, X1, e1, st1⟩ := getF X0 hx hZ hown (host := "") (Or.inl (hw _ (List.mem_of_getElem? (i := 10) rfl))) Via.refl e0 F_a_intervalMs (g := (mkF m 3 #[.val (.ref a), .val (.long p1), .second] [(.ref a), (.long p1), (.long p1)])) rfl rfl (hb hby d3_3)
  refine own_go (fun tgt cont => st1 tgt cont) ?_
  show own_Go p e below s (Q_rm3 Z a p1 u_iv h0 n0) 0 0 (T1.setTop (mkF m 6 #[.val (.ref a), .val (.long p1), .second] [(.long u_iv), (.long p1), (.long p1)]))
  -- pc 6: Math.floorMod
  obtain ⟨_, _, ⟨T2, L2, k2, n2⟩, -, X2, ⟨Lc2, hQ2, l2, y2, z2⟩, st2⟩ := Jvm.LawKit.callS X1 hx (y := (⟨"java/lang/Math", "floorMod", "(JJ)J"⟩ : MethodName)) hown (mvT hZ (hw _ (List.mem_of_getElem? (i := 29) rfl))) (mvT hZ (hw _ (List.mem_of_getElem? (i := 30) rfl))) (mvT hZ (hw _ (List.mem_of_getElem? (i := 31) rfl))) (mvT hZ (hw _ (List.mem_of_getElem? (i := 32) rfl))) (by decide) (backOf (W := 2) (rm4 l Z a0 hw [] p1 u_iv h0 n0 Z0 hnz) hZ (hw _ (List.mem_of_getElem? (i := 32) rfl)) (hw _ (List.mem_of_getElem? (i := 31) rfl)) (by decide) (by decide)) (g := (mkF m 6 #[.val (.ref a), .val (.long p1), .second] [(.long u_iv), (.long p1), (.long p1)])) rfl (by rw [hml]; rfl) (argsL := [(.long p1), (.long u_iv)]) (rest := [(.long p1)]) (lenOf own_pd0 rfl) rfl (by show 2 * 0 + _ ≤ _; exact Nat.le_of_eq rfl) (hb hby d3_6) (fun _ _ => ⟨rfl, e1, (by decide : 0 + 0 ≤ _), (by decide : 0 + 0 ≤ _)⟩)
  dsimp only [Pt.U, Pt.locs, Pt.cells, Pt.slots] at X2 l2 y2 z2 st2 hQ2
  subst l2 y2 z2
  obtain ⟨rfl, N2q, e2⟩ := hQ2
  have N2 := Fr.app N0 N2q
  refine own_go (fun tgt cont => st2 tgt cont) ?_
  show own_Go p e below s (Q_rm3 Z a p1 u_iv h0 n0) 0 0 (T2.setTop (mkF m 9 #[.val (.ref a), .val (.long p1), .second] [(.long (own_fm p1 u_iv)), (.long p1)]))
  generalize hr3 : (own_fm p1 u_iv) = r3
  refine own_go (B := T2.setTop (mkF m 10 #[.val (.ref a), .val (.long p1), .second] [(.long (p1 - r3))])) (fun tgt cont => ?_) ?_
  · refine XS.lsub X2.here hx rfl (hb hby d3_9) rfl ?_
    exact cont
  refine own_end X2 (v := some (.long (p1 - r3))) (fun h => by rw [Bd.returns] at h; cases h) hlk ?_ (by decide) (by decide) (fun fs hl => retOut X2 hx Bd.returns rfl (Or.inr (Or.inl ⟨rfl, rfl, _, rfl⟩)) (hb hby d3_10) hl)
  subst hr3
  exact ⟨(by unfold own_is_r; exact rfl), N2, e2⟩
def own_bw_r (p1 : Int64) (u_iv : Int64) (u_q : Int64) : Int64 := ((p1 + u_iv) + u_q)
def Q_rm5 (Z : State) (a : Addr) (p1 : Int64) (u_iv : Int64) (u_q : Int64) (h0 : Heap) (n0 : Nat) (v : Option Value) (h : Heap) (L : List Loc) : Prop := v = some (.long (own_bw_r p1 u_iv u_q)) ∧ Fr n0 L ∧ h = h0
theorem d5_0 : decode prog_1_method_6_code 0 = .ok (.lload_n 1, 1) := by decide +kernel
theorem d5_1 : decode prog_1_method_6_code 1 = .ok (.aload_n 0, 1) := by decide +kernel
theorem d5_2 : decode prog_1_method_6_code 2 = .ok (.getfield 7, 3) := by decide +kernel
theorem d5_5 : decode prog_1_method_6_code 5 = .ok (.ladd, 1) := by decide +kernel
theorem d5_6 : decode prog_1_method_6_code 6 = .ok (.aload_n 0, 1) := by decide +kernel
theorem d5_7 : decode prog_1_method_6_code 7 = .ok (.getfield 15, 3) := by decide +kernel
theorem d5_10 : decode prog_1_method_6_code 10 = .ok (.ladd, 1) := by decide +kernel
theorem d5_11 : decode prog_1_method_6_code 11 = .ok (.lreturn, 1) := by decide +kernel
set_option maxRecDepth 65536 in
set_option maxHeartbeats 40000000 in
theorem rm5 (l : Launch) (Z : State) (a0 : Array Value) (hw : ∀ d ∈ tables_1, d.before a0 Z = true) (ws : List Jvm.Cond) (a : Addr) (p1 : Int64) (u_iv : Int64) (u_q : Int64) (h0 : Heap) (n0 : Nat) (Z0 : n0 ≤ h0.size) (E_a : Exa Z h0 a "com/example/keyfold/keyfold/CommitSchedule") (F_a_intervalMs : Fld Z h0 a "com/example/keyfold/keyfold/CommitSchedule" "intervalMs" "J" (.long u_iv)) (F_a_quarterMs : Fld Z h0 a "com/example/keyfold/keyfold/CommitSchedule" "quarterMs" "J" (.long u_q))  :
    MetFree l (⟨"com/example/keyfold/keyfold/CommitSchedule", "backlogWaitEnd", "(J)J"⟩ : MethodName) (head1 (Jvm.Cond.code (⟨"com/example/keyfold/keyfold/CommitSchedule", "backlogWaitEnd", "(J)J"⟩ : MethodName) prog_1_method_6_code 3 (some .long) :: ws) ({ frames := 0, cells := 0, slots := 0, locals := 0 } : Room)) (fun aa U => aa = #[(.ref a), (.long p1)] ∧ Z.Warmed39 U.vm ∧ U.heap = h0) (fun _ _ _ _ _ => True) (fun _ U o U' => ∃ v L, o = .returned v ∧ Q_rm5 Z a p1 u_iv u_q h0 n0 v U'.heap L ∧ FrameEnd U o U' L ({ frames := 0, cells := 0, slots := 0, locals := 0 } : Room).cells ({ frames := 0, cells := 0, slots := 0, locals := 0 } : Room).slots) := by
  refine MetFree.of_bodySF (plainFor_of_name own_pn0) hisR ?_
  intro p e s m args below meth c s₁ Bd hml0 hP hK
  obtain ⟨rfl, hZ, hh⟩ := hP
  have hx := Bd.exec
  have hby := Bd.bytes
  have hml : c.maxLocals = 3 := hml0
  have hlk : meth.locks = false := BodyLoose.notSynchronized Bd
  have hown : s.vm.findClass "com/example/keyfold/keyfold/CommitSchedule" = some m.cls := findClass_of_methodNamed Bd.named
  have hnm := (name_of_methodNamed Bd.named Bd.method).1
  have X0 : Stand p l e ({ frames := 0, cells := 0, slots := 0, locals := 0 } : Room) s m #[(.ref a), (.long p1)] below meth c s₁ [] 0 0 := Stand.of_body Bd
  have e0 : s₁.heap = h0 := by rw [← hh, Bd.state]; rfl
  have N0 := Fr.nil n0
  show own_Go p e below s (Q_rm5 Z a p1 u_iv u_q h0 n0) 0 0 (s₁.setTop (entryFrame m #[(.ref a), (.long p1)] 3))
  refine own_go (B := s₁.setTop (mkF m 0 #[.val (.ref a), .val (.long p1), .second] [])) (fun tgt cont => (XT.entry rfl).trans cont) ?_
  refine own_go (B := s₁.setTop (mkF m 2 #[.val (.ref a), .val (.long p1), .second] [(.ref a), (.long p1)])) (fun tgt cont => ?_) ?_
  · refine XS.lloadN X0.here hx rfl (hb hby d5_0) rfl ?_
    refine XS.aloadN X0.here hx rfl (hb hby d5_1) rfl rfl ?_
    exact cont
  obtain ⟨T1, X1, e1, st1⟩ := getF X0 hx hZ hown (host := "") (Or.inl (hw _ (List.mem_of_getElem? (i := 10) rfl))) Via.refl e0 F_a_intervalMs (g := (mkF m 2 #[.val (.ref a), .val (.long p1), .second] [(.ref a), (.long p1)])) rfl rfl (hb hby d5_2)
  refine own_go (fun tgt cont => st1 tgt cont) ?_
  show own_Go p e below s (Q_rm5 Z a p1 u_iv u_q h0 n0) 0 0 (T1.setTop (mkF m 5 #[.val (.ref a), .val (.long p1), .second] [(.long u_iv), (.long p1)]))
  refine own_go (B := T1.setTop (mkF m 7 #[.val (.ref a), .val (.long p1), .second] [(.ref a), (.long (p1 + u_iv))])) (fun tgt cont => ?_) ?_
  · refine XS.ladd X1.here hx rfl (hb hby d5_5) rfl ?_
    refine XS.aloadN X1.here hx rfl (hb hby d5_6) rfl rfl ?_
    exact cont
  obtain ⟨T2, X2, e2, st2⟩ := getF X1 hx hZ hown (host := "") (Or.inl (hw _ (List.mem_of_getElem? (i := 13) rfl))) Via.refl e1 F_a_quarterMs (g := (mkF m 7 #[.val (.ref a), .val (.long p1), .second] [(.ref a), (.long (p1 + u_iv))])) rfl rfl (hb hby d5_7)
  refine own_go (fun tgt cont => st2 tgt cont) ?_
  show own_Go p e below s (Q_rm5 Z a p1 u_iv u_q h0 n0) 0 0 (T2.setTop (mkF m 10 #[.val (.ref a), .val (.long p1), .second] [(.long u_q), (.long (p1 + u_iv))]))
  refine own_go (B := T2.setTop (mkF m 11 #[.val (.ref a), .val (.long p1), .second] [(.long ((p1 + u_iv) + u_q))])) (fun tgt cont => ?_) ?_
  · refine XS.ladd X2.here hx rfl (hb hby d5_10) rfl ?_
    exact cont
  refine own_end X2 (v := some (.long ((p1 + u_iv) + u_q))) (fun h => by rw [Bd.returns] at h; cases h) hlk ?_ (by decide) (by decide) (fun fs hl => retOut X2 hx Bd.returns rfl (Or.inr (Or.inl ⟨rfl, rfl, _, rfl⟩)) (hb hby d5_11) hl)
  exact ⟨(by unfold own_bw_r; exact rfl), N0, e2⟩
def own_na_r (p1 : Int64) (p2 : Int64) (u_iv : Int64) : Int64 := if p1 < (((own_is_r p1 u_iv)) + p2) then (((own_is_r p1 u_iv)) + p2) else ((((own_is_r p1 u_iv)) + p2) + u_iv)
def Q_rm7 (Z : State) (a : Addr) (p1 : Int64) (p2 : Int64) (u_iv : Int64) (h0 : Heap) (n0 : Nat) (v : Option Value) (h : Heap) (L : List Loc) : Prop := v = some (.long (own_na_r p1 p2 u_iv)) ∧ Fr n0 L ∧ h = h0
theorem own_pd1 : parseMethodDescriptor "(J)J" = some ⟨[.long], some .long⟩ := by decide +kernel
theorem d7_0 : decode prog_1_method_15_code 0 = .ok (.aload_n 0, 1) := by decide +kernel
theorem d7_1 : decode prog_1_method_15_code 1 = .ok (.lload_n 1, 1) := by decide +kernel
theorem d7_2 : decode prog_1_method_15_code 2 = .ok (.invokevirtual 40, 3) := by decide +kernel
theorem d7_5 : decode prog_1_method_15_code 5 = .ok (.lload_n 3, 1) := by decide +kernel
theorem d7_6 : decode prog_1_method_15_code 6 = .ok (.ladd, 1) := by decide +kernel
theorem d7_7 : decode prog_1_method_15_code 7 = .ok (.lstore 5, 2) := by decide +kernel
theorem d7_9 : decode prog_1_method_15_code 9 = .ok (.lload 5, 2) := by decide +kernel
theorem d7_11 : decode prog_1_method_15_code 11 = .ok (.lload_n 1, 1) := by decide +kernel
theorem d7_12 : decode prog_1_method_15_code 12 = .ok (.lcmp, 1) := by decide +kernel
theorem d7_13 : decode prog_1_method_15_code 13 = .ok (.ifCond .le 8, 3) := by decide +kernel
theorem d7_16 : decode prog_1_method_15_code 16 = .ok (.lload 5, 2) := by decide +kernel
theorem d7_18 : decode prog_1_method_15_code 18 = .ok (.goto 10, 3) := by decide +kernel
theorem d7_21 : decode prog_1_method_15_code 21 = .ok (.lload 5, 2) := by decide +kernel
theorem d7_23 : decode prog_1_method_15_code 23 = .ok (.aload_n 0, 1) := by decide +kernel
theorem d7_24 : decode prog_1_method_15_code 24 = .ok (.getfield 7, 3) := by decide +kernel
theorem d7_27 : decode prog_1_method_15_code 27 = .ok (.ladd, 1) := by decide +kernel
theorem d7_28 : decode prog_1_method_15_code 28 = .ok (.lreturn, 1) := by decide +kernel
set_option maxRecDepth 65536 in
set_option maxHeartbeats 40000000 in
theorem rm7 (l : Launch) (Z : State) (a0 : Array Value) (hw : ∀ d ∈ tables_1, d.before a0 Z = true) (ws : List Jvm.Cond) (a : Addr) (p1 : Int64) (p2 : Int64) (u_iv : Int64) (h0 : Heap) (n0 : Nat) (Z0 : n0 ≤ h0.size) (E_a : Exa Z h0 a "com/example/keyfold/keyfold/CommitSchedule") (F_a_intervalMs : Fld Z h0 a "com/example/keyfold/keyfold/CommitSchedule" "intervalMs" "J" (.long u_iv)) (hnz : u_iv ≠ 0) :
    MetFree l (⟨"com/example/keyfold/keyfold/CommitSchedule", "nextAt", "(JJ)J"⟩ : MethodName) (head1 (Jvm.Cond.code (⟨"com/example/keyfold/keyfold/CommitSchedule", "nextAt", "(JJ)J"⟩ : MethodName) prog_1_method_15_code 7 (some .long) :: ws) ({ frames := 2, cells := 0, slots := 0, locals := 33 } : Room)) (fun aa U => aa = #[(.ref a), (.long p1), (.long p2)] ∧ Z.Warmed39 U.vm ∧ U.heap = h0) (fun _ _ _ _ _ => True) (fun _ U o U' => ∃ v L, o = .returned v ∧ Q_rm7 Z a p1 p2 u_iv h0 n0 v U'.heap L ∧ FrameEnd U o U' L ({ frames := 2, cells := 0, slots := 0, locals := 33 } : Room).cells ({ frames := 2, cells := 0, slots := 0, locals := 33 } : Room).slots) := by
  refine MetFree.of_bodySF (plainFor_of_name own_pn0) hisR ?_
  intro p e s m args below meth c s₁ Bd hml0 hP hK
  obtain ⟨rfl, hZ, hh⟩ := hP
  have hx := Bd.exec
  have hby := Bd.bytes
  have hml : c.maxLocals = 7 := hml0
  have hlk : meth.locks = false := BodyLoose.notSynchronized Bd
  have hown : s.vm.findClass "com/example/keyfold/keyfold/CommitSchedule" = some m.cls := findClass_of_methodNamed Bd.named
  have hnm := (name_of_methodNamed Bd.named Bd.method).1
  have X0 : Stand p l e ({ frames := 2, cells := 0, slots := 0, locals := 33 } : Room) s m #[(.ref a), (.long p1), (.long p2)] below meth c s₁ [] 0 0 := Stand.of_body Bd
  have e0 : s₁.heap = h0 := by rw [← hh, Bd.state]; rfl
  have N0 := Fr.nil n0
  show own_Go p e below s (Q_rm7 Z a p1 p2 u_iv h0 n0) 0 0 (s₁.setTop (entryFrame m #[(.ref a), (.long p1), (.long p2)] 7))
  refine own_go (B := s₁.setTop (mkF m 0 #[.val (.ref a), .val (.long p1), .second, .val (.long p2), .second, .unset, .unset] [])) (fun tgt cont => (XT.entry rfl).trans cont) ?_
  refine own_go (B := s₁.setTop (mkF m 2 #[.val (.ref a), .val (.long p1), .second, .val (.long p2), .second, .unset, .unset] [(.long p1), (.ref a)])) (fun tgt cont => ?_) ?_
  · refine XS.aloadN X0.here hx rfl (hb hby d7_0) rfl rfl ?_
    refine XS.lloadN X0.here hx rfl (hb hby d7_1) rfl ?_
    exact cont
  -- pc 2: CommitSchedule.intervalStart
  obtain ⟨cq1, kq1, qa1, qb1, qc1⟩ := isOf hZ e0 E_a
  obtain ⟨_, _, ⟨T1, L1, k1, n1⟩, -, X1, ⟨Lc1, hQ1, l1, y1, z1⟩, st1⟩ := X0.virtualBack hx (y := (⟨"com/example/keyfold/keyfold/CommitSchedule", "intervalStart", "(J)J"⟩ : MethodName)) (z := (⟨"com/example/keyfold/keyfold/CommitSchedule", "intervalStart", "(J)J"⟩ : MethodName)) hown (mvT hZ (hw _ (List.mem_of_getElem? (i := 47) rfl))) (mvT hZ (hw _ (List.mem_of_getElem? (i := 25) rfl))) (notFace_of_selects (args := #[]) (mvT hZ (hw _ (List.mem_of_getElem? (i := 27) rfl)))) (mvT hZ (hw _ (List.mem_of_getElem? (i := 27) rfl))) (mvT hZ (hw _ (List.mem_of_getElem? (i := 26) rfl))) (by decide) (backOf (W := 0) (rm3 l Z a0 hw [] a p1 u_iv h0 n0 Z0 E_a F_a_intervalMs hnz) hZ (hw _ (List.mem_of_getElem? (i := 28) rfl)) (hw _ (List.mem_of_getElem? (i := 3) rfl)) (by decide) (by decide)) qa1 qc1 (g := (mkF m 2 #[.val (.ref a), .val (.long p1), .second, .val (.long p2), .second, .unset, .unset] [(.long p1), (.ref a)])) rfl (by rw [hml]; rfl) (Steps.refl _) (argsL := [(.long p1)]) (rest := []) (lenOf own_pd1 rfl) rfl (by show 2 * 0 + _ ≤ _; exact Nat.le_of_eq rfl) (hb hby d7_2) (fun _ _ => ⟨rfl, e0, (by decide : 0 + 0 ≤ _), (by decide : 0 + 0 ≤ _)⟩)
  dsimp only [Pt.U, Pt.locs, Pt.cells, Pt.slots] at X1 l1 y1 z1 st1 hQ1
  subst l1 y1 z1
  obtain ⟨rfl, N1q, e1⟩ := hQ1
  have N1 := Fr.app N0 N1q
  refine own_go (fun tgt cont => st1.trans cont) ?_
  show own_Go p e below s (Q_rm7 Z a p1 p2 u_iv h0 n0) 0 0 (T1.setTop (mkF m 5 #[.val (.ref a), .val (.long p1), .second, .val (.long p2), .second, .unset, .unset] [(.long (own_is_r p1 u_iv))]))
  generalize hr2 : (own_is_r p1 u_iv) = r2
  refine own_go (B := T1.setTop (mkF m 13 #[.val (.ref a), .val (.long p1), .second, .val (.long p2), .second, .val (.long (r2 + p2)), .second] [(.int (XT.cmpL (r2 + p2) p1))])) (fun tgt cont => ?_) ?_
  · refine XS.lloadN X1.here hx rfl (hb hby d7_5) rfl ?_
    refine XS.ladd X1.here hx rfl (hb hby d7_6) rfl ?_
    refine XS.lstore X1.here hx rfl (hb hby d7_7) rfl (l' := #[.val (.ref a), .val (.long p1), .second, .val (.long p2), .second, .val (.long (r2 + p2)), .second]) rfl ?_
    refine XS.lload X1.here hx rfl (hb hby d7_9) rfl ?_
    refine XS.lloadN X1.here hx rfl (hb hby d7_11) rfl ?_
    refine XT.lcmp X1.here hx rfl (hb hby d7_12) rfl ?_
    exact cont
  by_cases hc3 : p1 < (r2 + p2)
  ·
    refine own_go (B := T1.setTop (mkF m 28 #[.val (.ref a), .val (.long p1), .second, .val (.long p2), .second, .val (.long (r2 + p2)), .second] [(.long (r2 + p2))])) (fun tgt cont => ?_) ?_
    · refine XS.ifNo X1.here hx rfl (hb hby d7_13) rfl (XT.ll_le_f hc3) ?_
      refine XS.lload X1.here hx rfl (hb hby d7_16) rfl ?_
      refine XS.goto X1.here hx rfl (pc0 := 18) (pc' := 28) rfl (hb hby d7_18) (by decide) (by decide) ?_
      exact cont
    refine own_end X1 (v := some (.long (r2 + p2))) (fun h => by rw [Bd.returns] at h; cases h) hlk ?_ (by decide) (by decide) (fun fs hl => retOut X1 hx Bd.returns rfl (Or.inr (Or.inl ⟨rfl, rfl, _, rfl⟩)) (hb hby d7_28) hl)
    subst hr2
    exact ⟨(by unfold own_na_r; first | exact rfl | (simp only [if_pos hc3]; first | done | exact rfl)), N1, e1⟩
  ·
    refine own_go (B := T1.setTop (mkF m 24 #[.val (.ref a), .val (.long p1), .second, .val (.long p2), .second, .val (.long (r2 + p2)), .second] [(.ref a), (.long (r2 + p2))])) (fun tgt cont => ?_) ?_
    · refine XS.ifYes X1.here hx rfl (pc0 := 13) (pc' := 21) rfl (hb hby d7_13) rfl (XT.ll_le_t hc3) (by decide) (by decide) ?_
      refine XS.lload X1.here hx rfl (hb hby d7_21) rfl ?_
      refine XS.aloadN X1.here hx rfl (hb hby d7_23) rfl rfl ?_
      exact cont
    obtain ⟨T4, X4, e4, st4⟩ := getF X1 hx hZ hown (host := "") (Or.inl (hw _ (List.mem_of_getElem? (i := 10) rfl))) Via.refl e1 F_a_intervalMs (g := (mkF m 24 #[.val (.ref a), .val (.long p1), .second, .val (.long p2), .second, .val (.long (r2 + p2)), .second] [(.ref a), (.long (r2 + p2))])) rfl rfl (hb hby d7_24)
    refine own_go (fun tgt cont => st4 tgt cont) ?_
    show own_Go p e below s (Q_rm7 Z a p1 p2 u_iv h0 n0) 0 0 (T4.setTop (mkF m 27 #[.val (.ref a), .val (.long p1), .second, .val (.long p2), .second, .val (.long (r2 + p2)), .second] [(.long u_iv), (.long (r2 + p2))]))
    refine own_go (B := T4.setTop (mkF m 28 #[.val (.ref a), .val (.long p1), .second, .val (.long p2), .second, .val (.long (r2 + p2)), .second] [(.long ((r2 + p2) + u_iv))])) (fun tgt cont => ?_) ?_
    · refine XS.ladd X4.here hx rfl (hb hby d7_27) rfl ?_
      exact cont
    refine own_end X4 (v := some (.long ((r2 + p2) + u_iv))) (fun h => by rw [Bd.returns] at h; cases h) hlk ?_ (by decide) (by decide) (fun fs hl => retOut X4 hx Bd.returns rfl (Or.inr (Or.inl ⟨rfl, rfl, _, rfl⟩)) (hb hby d7_28) hl)
    subst hr2
    exact ⟨(by unfold own_na_r; first | exact rfl | (simp only [if_neg hc3]; first | done | exact rfl)), N1, e4⟩
def own_nc_r (p1 : Int64) (p2 : Int32) (u_iv : Int64) (u_q : Int64) (u_f : Int64) (u_s : Int64) : Int64 := if p2 = 0 then ((own_na_r p1 u_f u_iv)) else ((own_na_r p1 (((2 : Int64) * u_q) + (((p2 - (1 : Int32)).toInt64) * u_s)) u_iv))
def Q_rm6 (Z : State) (a : Addr) (p1 : Int64) (p2 : Int32) (u_iv : Int64) (u_q : Int64) (u_f : Int64) (u_s : Int64) (h0 : Heap) (n0 : Nat) (v : Option Value) (h : Heap) (L : List Loc) : Prop := v = some (.long (own_nc_r p1 p2 u_iv u_q u_f u_s)) ∧ Fr n0 L ∧ h = h0
theorem d6_0 : decode prog_1_method_13_code 0 = .ok (.aload_n 0, 1) := by decide +kernel
theorem d6_1 : decode prog_1_method_13_code 1 = .ok (.lload_n 1, 1) := by decide +kernel
theorem d6_2 : decode prog_1_method_13_code 2 = .ok (.iload_n 3, 1) := by decide +kernel
theorem d6_3 : decode prog_1_method_13_code 3 = .ok (.ifCond .ne 10, 3) := by decide +kernel
theorem d6_6 : decode prog_1_method_13_code 6 = .ok (.aload_n 0, 1) := by decide +kernel
theorem d6_7 : decode prog_1_method_13_code 7 = .ok (.getfield 26, 3) := by decide +kernel
theorem d6_10 : decode prog_1_method_13_code 10 = .ok (.goto 21, 3) := by decide +kernel
theorem d6_13 : decode prog_1_method_13_code 13 = .ok (.ldc2_w 29, 3) := by decide +kernel
theorem d6_16 : decode prog_1_method_13_code 16 = .ok (.aload_n 0, 1) := by decide +kernel
theorem d6_17 : decode prog_1_method_13_code 17 = .ok (.getfield 15, 3) := by decide +kernel
theorem d6_20 : decode prog_1_method_13_code 20 = .ok (.lmul, 1) := by decide +kernel
theorem d6_21 : decode prog_1_method_13_code 21 = .ok (.iload_n 3, 1) := by decide +kernel
theorem d6_22 : decode prog_1_method_13_code 22 = .ok (.iconst 1, 1) := by decide +kernel
theorem d6_23 : decode prog_1_method_13_code 23 = .ok (.isub, 1) := by decide +kernel
theorem d6_24 : decode prog_1_method_13_code 24 = .ok (.i2l, 1) := by decide +kernel
theorem d6_25 : decode prog_1_method_13_code 25 = .ok (.aload_n 0, 1) := by decide +kernel
theorem d6_26 : decode prog_1_method_13_code 26 = .ok (.getfield 31, 3) := by decide +kernel
theorem d6_29 : decode prog_1_method_13_code 29 = .ok (.lmul, 1) := by decide +kernel
theorem d6_30 : decode prog_1_method_13_code 30 = .ok (.ladd, 1) := by decide +kernel
theorem d6_31 : decode prog_1_method_13_code 31 = .ok (.invokevirtual 44, 3) := by decide +kernel
theorem d6_34 : decode prog_1_method_13_code 34 = .ok (.lreturn, 1) := by decide +kernel
set_option maxRecDepth 65536 in
set_option maxHeartbeats 40000000 in
theorem rm6 (l : Launch) (Z : State) (a0 : Array Value) (hw : ∀ d ∈ tables_1, d.before a0 Z = true) (ws : List Jvm.Cond) (a : Addr) (p1 : Int64) (p2 : Int32) (u_iv : Int64) (u_q : Int64) (u_f : Int64) (u_s : Int64) (h0 : Heap) (n0 : Nat) (Z0 : n0 ≤ h0.size) (E_a : Exa Z h0 a "com/example/keyfold/keyfold/CommitSchedule") (F_a_intervalMs : Fld Z h0 a "com/example/keyfold/keyfold/CommitSchedule" "intervalMs" "J" (.long u_iv)) (F_a_quarterMs : Fld Z h0 a "com/example/keyfold/keyfold/CommitSchedule" "quarterMs" "J" (.long u_q)) (F_a_firstCommitMs : Fld Z h0 a "com/example/keyfold/keyfold/CommitSchedule" "firstCommitMs" "J" (.long u_f)) (F_a_standInStepMs : Fld Z h0 a "com/example/keyfold/keyfold/CommitSchedule" "standInStepMs" "J" (.long u_s)) (hnz : u_iv ≠ 0) :
    MetFree l (⟨"com/example/keyfold/keyfold/CommitSchedule", "nextCommit", "(JI)J"⟩ : MethodName) (head1 (Jvm.Cond.code (⟨"com/example/keyfold/keyfold/CommitSchedule", "nextCommit", "(JI)J"⟩ : MethodName) prog_1_method_13_code 4 (some .long) :: ws) ({ frames := 3, cells := 0, slots := 0, locals := 51 } : Room)) (fun aa U => aa = #[(.ref a), (.long p1), (.int p2)] ∧ Z.Warmed39 U.vm ∧ U.heap = h0) (fun _ _ _ _ _ => True) (fun _ U o U' => ∃ v L, o = .returned v ∧ Q_rm6 Z a p1 p2 u_iv u_q u_f u_s h0 n0 v U'.heap L ∧ FrameEnd U o U' L ({ frames := 3, cells := 0, slots := 0, locals := 51 } : Room).cells ({ frames := 3, cells := 0, slots := 0, locals := 51 } : Room).slots) := by
  refine MetFree.of_bodySF (plainFor_of_name own_pn0) hisR ?_
  intro p e s m args below meth c s₁ Bd hml0 hP hK
  obtain ⟨rfl, hZ, hh⟩ := hP
  have hx := Bd.exec
  have hby := Bd.bytes
  have hml : c.maxLocals = 4 := hml0
  have hlk : meth.locks = false := BodyLoose.notSynchronized Bd
  have hown : s.vm.findClass "com/example/keyfold/keyfold/CommitSchedule" = some m.cls := findClass_of_methodNamed Bd.named
  have hnm := (name_of_methodNamed Bd.named Bd.method).1
  have X0 : Stand p l e ({ frames := 3, cells := 0, slots := 0, locals := 51 } : Room) s m #[(.ref a), (.long p1), (.int p2)] below meth c s₁ [] 0 0 := Stand.of_body Bd
  have e0 : s₁.heap = h0 := by rw [← hh, Bd.state]; rfl
  have N0 := Fr.nil n0
  show own_Go p e below s (Q_rm6 Z a p1 p2 u_iv u_q u_f u_s h0 n0) 0 0 (s₁.setTop (entryFrame m #[(.ref a), (.long p1), (.int p2)] 4))
  refine own_go (B := s₁.setTop (mkF m 0 #[.val (.ref a), .val (.long p1), .second, .val (.int p2)] [])) (fun tgt cont => (XT.entry rfl).trans cont) ?_
  refine own_go (B := s₁.setTop (mkF m 3 #[.val (.ref a), .val (.long p1), .second, .val (.int p2)] [(.int p2), (.long p1), (.ref a)])) (fun tgt cont => ?_) ?_
  · refine XS.aloadN X0.here hx rfl (hb hby d6_0) rfl rfl ?_
    refine XS.lloadN X0.here hx rfl (hb hby d6_1) rfl ?_
    refine XS.iloadN X0.here hx rfl (hb hby d6_2) rfl ?_
    exact cont
  by_cases hc1 : p2 = 0
  ·
    refine own_go (B := s₁.setTop (mkF m 7 #[.val (.ref a), .val (.long p1), .second, .val (.int p2)] [(.ref a), (.long p1), (.ref a)])) (fun tgt cont => ?_) ?_
    · refine XS.ifNo X0.here hx rfl (hb hby d6_3) rfl (XT.i0_ne_f hc1) ?_
      refine XS.aloadN X0.here hx rfl (hb hby d6_6) rfl rfl ?_
      exact cont
    obtain ⟨T2, X2, e2, st2⟩ := getF X0 hx hZ hown (host := "") (Or.inl (hw _ (List.mem_of_getElem? (i := 19) rfl))) Via.refl e0 F_a_firstCommitMs (g := (mkF m 7 #[.val (.ref a), .val (.long p1), .second, .val (.int p2)] [(.ref a), (.long p1), (.ref a)])) rfl rfl (hb hby d6_7)
    refine own_go (fun tgt cont => st2 tgt cont) ?_
    show own_Go p e below s (Q_rm6 Z a p1 p2 u_iv u_q u_f u_s h0 n0) 0 0 (T2.setTop (mkF m 10 #[.val (.ref a), .val (.long p1), .second, .val (.int p2)] [(.long u_f), (.long p1), (.ref a)]))
    refine own_go (B := T2.setTop (mkF m 31 #[.val (.ref a), .val (.long p1), .second, .val (.int p2)] [(.long u_f), (.long p1), (.ref a)])) (fun tgt cont => ?_) ?_
    · refine XS.goto X2.here hx rfl (pc0 := 10) (pc' := 31) rfl (hb hby d6_10) (by decide) (by decide) ?_
      exact cont
    -- pc 31: CommitSchedule.nextAt
    obtain ⟨cc3, ca3, cb3⟩ := E_a.cell
    obtain ⟨_, _, ⟨T3, L3, k3, n3⟩, -, X3, ⟨Lc3, hQ3, l3, y3, z3⟩, st3⟩ := X2.privateBack hx (y := (⟨"com/example/keyfold/keyfold/CommitSchedule", "nextAt", "(JJ)J"⟩ : MethodName)) hown (mvT hZ (hw _ (List.mem_of_getElem? (i := 43) rfl))) (mvT hZ (hw _ (List.mem_of_getElem? (i := 44) rfl))) (own_selP hZ (hw _ (List.mem_of_getElem? (i := 2) rfl)) (hw _ (List.mem_of_getElem? (i := 44) rfl)) (hw _ (List.mem_of_getElem? (i := 45) rfl))) (Cond.privateMethod_at (mvP hZ (hw _ (List.mem_of_getElem? (i := 45) rfl)) (args := #[]))) (mvT hZ (hw _ (List.mem_of_getElem? (i := 46) rfl))) (by decide) (backOf (W := 0) (rm7 l Z a0 hw [] a p1 u_f u_iv h0 n0 Z0 E_a F_a_intervalMs hnz) hZ (hw _ (List.mem_of_getElem? (i := 46) rfl)) (hw _ (List.mem_of_getElem? (i := 3) rfl)) (by decide) (by decide)) (g := (mkF m 31 #[.val (.ref a), .val (.long p1), .second, .val (.int p2)] [(.long u_f), (.long p1), (.ref a)])) rfl (by rw [hml]; rfl) (Steps.refl _) (a := a) (by rw [e2]; exact ca3) cb3 (argsL := [(.long p1), (.long u_f)]) (rest := []) (lenOf own_pd0 rfl) rfl (by show 2 * 0 + _ ≤ _; exact Nat.le_of_eq rfl) (hb hby d6_31) (fun _ _ => ⟨rfl, e2, (by decide : 0 + 0 ≤ _), (by decide : 0 + 0 ≤ _)⟩)
    dsimp only [Pt.U, Pt.locs, Pt.cells, Pt.slots] at X3 l3 y3 z3 st3 hQ3
    subst l3 y3 z3
    obtain ⟨rfl, N3q, e3⟩ := hQ3
    have N3 := Fr.app N0 N3q
    refine own_go (fun tgt cont => st3.trans cont) ?_
    show own_Go p e below s (Q_rm6 Z a p1 p2 u_iv u_q u_f u_s h0 n0) 0 0 (T3.setTop (mkF m 34 #[.val (.ref a), .val (.long p1), .second, .val (.int p2)] [(.long (own_na_r p1 u_f u_iv))]))
    generalize hr4 : (own_na_r p1 u_f u_iv) = r4
    refine own_end X3 (v := some (.long r4)) (fun h => by rw [Bd.returns] at h; cases h) hlk ?_ (by decide) (by decide) (fun fs hl => retOut X3 hx Bd.returns rfl (Or.inr (Or.inl ⟨rfl, rfl, _, rfl⟩)) (hb hby d6_34) hl)
    subst hr4
    exact ⟨(by unfold own_nc_r; first | exact rfl | (simp only [if_pos hc1]; first | done | exact rfl)), N3, e3⟩
  ·
    refine own_go (B := s₁.setTop (mkF m 17 #[.val (.ref a), .val (.long p1), .second, .val (.int p2)] [(.ref a), (.long (2 : Int64)), (.long p1), (.ref a)])) (fun tgt cont => ?_) ?_
    · refine XS.ifYes X0.here hx rfl (pc0 := 3) (pc' := 13) rfl (hb hby d6_3) rfl (XT.i0_ne_t hc1) (by decide) (by decide) ?_
      refine Stand.ldc2J X0 hx hown (mvT hZ (hw _ (List.mem_of_getElem? (i := 21) rfl))) rfl (hb hby d6_13) ?_
      refine XS.aloadN X0.here hx rfl (hb hby d6_16) rfl rfl ?_
      exact cont
    obtain ⟨T5, X5, e5, st5⟩ := getF X0 hx hZ hown (host := "") (Or.inl (hw _ (List.mem_of_getElem? (i := 13) rfl))) Via.refl e0 F_a_quarterMs (g := (mkF m 17 #[.val (.ref a), .val (.long p1), .second, .val (.int p2)] [(.ref a), (.long (2 : Int64)), (.long p1), (.ref a)])) rfl rfl (hb hby d6_17)
    refine own_go (fun tgt cont => st5 tgt cont) ?_
    show own_Go p e below s (Q_rm6 Z a p1 p2 u_iv u_q u_f u_s h0 n0) 0 0 (T5.setTop (mkF m 20 #[.val (.ref a), .val (.long p1), .second, .val (.int p2)] [(.long u_q), (.long (2 : Int64)), (.long p1), (.ref a)]))
    refine own_go (B := T5.setTop (mkF m 26 #[.val (.ref a), .val (.long p1), .second, .val (.int p2)] [(.ref a), (.long ((p2 - (1 : Int32)).toInt64)), (.long ((2 : Int64) * u_q)), (.long p1), (.ref a)])) (fun tgt cont => ?_) ?_
    · refine XS.lmul X5.here hx rfl (hb hby d6_20) rfl ?_
      refine XS.iloadN X5.here hx rfl (hb hby d6_21) rfl ?_
      refine XT.iconstV X5.here hx rfl (1 : Int32) (hb hby d6_22) rfl ?_
      refine XS.isub X5.here hx rfl (hb hby d6_23) rfl ?_
      refine XS.i2l X5.here hx rfl (hb hby d6_24) rfl ?_
      refine XS.aloadN X5.here hx rfl (hb hby d6_25) rfl rfl ?_
      exact cont
    obtain ⟨T6, X6, e6, st6⟩ := getF X5 hx hZ hown (host := "") (Or.inl (hw _ (List.mem_of_getElem? (i := 22) rfl))) Via.refl e5 F_a_standInStepMs (g := (mkF m 26 #[.val (.ref a), .val (.long p1), .second, .val (.int p2)] [(.ref a), (.long ((p2 - (1 : Int32)).toInt64)), (.long ((2 : Int64) * u_q)), (.long p1), (.ref a)])) rfl rfl (hb hby d6_26)
    refine own_go (fun tgt cont => st6 tgt cont) ?_
    show own_Go p e below s (Q_rm6 Z a p1 p2 u_iv u_q u_f u_s h0 n0) 0 0 (T6.setTop (mkF m 29 #[.val (.ref a), .val (.long p1), .second, .val (.int p2)] [(.long u_s), (.long ((p2 - (1 : Int32)).toInt64)), (.long ((2 : Int64) * u_q)), (.long p1), (.ref a)]))
    refine own_go (B := T6.setTop (mkF m 31 #[.val (.ref a), .val (.long p1), .second, .val (.int p2)] [(.long (((2 : Int64) * u_q) + (((p2 - (1 : Int32)).toInt64) * u_s))), (.long p1), (.ref a)])) (fun tgt cont => ?_) ?_
    · refine XS.lmul X6.here hx rfl (hb hby d6_29) rfl ?_
      refine XS.ladd X6.here hx rfl (hb hby d6_30) rfl ?_
      exact cont
    -- pc 31: CommitSchedule.nextAt
    obtain ⟨cc7, ca7, cb7⟩ := E_a.cell
    obtain ⟨_, _, ⟨T7, L7, k7, n7⟩, -, X7, ⟨Lc7, hQ7, l7, y7, z7⟩, st7⟩ := X6.privateBack hx (y := (⟨"com/example/keyfold/keyfold/CommitSchedule", "nextAt", "(JJ)J"⟩ : MethodName)) hown (mvT hZ (hw _ (List.mem_of_getElem? (i := 43) rfl))) (mvT hZ (hw _ (List.mem_of_getElem? (i := 44) rfl))) (own_selP hZ (hw _ (List.mem_of_getElem? (i := 2) rfl)) (hw _ (List.mem_of_getElem? (i := 44) rfl)) (hw _ (List.mem_of_getElem? (i := 45) rfl))) (Cond.privateMethod_at (mvP hZ (hw _ (List.mem_of_getElem? (i := 45) rfl)) (args := #[]))) (mvT hZ (hw _ (List.mem_of_getElem? (i := 46) rfl))) (by decide) (backOf (W := 0) (rm7 l Z a0 hw [] a p1 (((2 : Int64) * u_q) + (((p2 - (1 : Int32)).toInt64) * u_s)) u_iv h0 n0 Z0 E_a F_a_intervalMs hnz) hZ (hw _ (List.mem_of_getElem? (i := 46) rfl)) (hw _ (List.mem_of_getElem? (i := 3) rfl)) (by decide) (by decide)) (g := (mkF m 31 #[.val (.ref a), .val (.long p1), .second, .val (.int p2)] [(.long (((2 : Int64) * u_q) + (((p2 - (1 : Int32)).toInt64) * u_s))), (.long p1), (.ref a)])) rfl (by rw [hml]; rfl) (Steps.refl _) (a := a) (by rw [e6]; exact ca7) cb7 (argsL := [(.long p1), (.long (((2 : Int64) * u_q) + (((p2 - (1 : Int32)).toInt64) * u_s)))]) (rest := []) (lenOf own_pd0 rfl) rfl (by show 2 * 0 + _ ≤ _; exact Nat.le_of_eq rfl) (hb hby d6_31) (fun _ _ => ⟨rfl, e6, (by decide : 0 + 0 ≤ _), (by decide : 0 + 0 ≤ _)⟩)
    dsimp only [Pt.U, Pt.locs, Pt.cells, Pt.slots] at X7 l7 y7 z7 st7 hQ7
    subst l7 y7 z7
    obtain ⟨rfl, N7q, e7⟩ := hQ7
    have N7 := Fr.app N0 N7q
    refine own_go (fun tgt cont => st7.trans cont) ?_
    show own_Go p e below s (Q_rm6 Z a p1 p2 u_iv u_q u_f u_s h0 n0) 0 0 (T7.setTop (mkF m 34 #[.val (.ref a), .val (.long p1), .second, .val (.int p2)] [(.long (own_na_r p1 (((2 : Int64) * u_q) + (((p2 - (1 : Int32)).toInt64) * u_s)) u_iv))]))
    generalize hr8 : (own_na_r p1 (((2 : Int64) * u_q) + (((p2 - (1 : Int32)).toInt64) * u_s)) u_iv) = r8
    refine own_end X7 (v := some (.long r8)) (fun h => by rw [Bd.returns] at h; cases h) hlk ?_ (by decide) (by decide) (fun fs hl => retOut X7 hx Bd.returns rfl (Or.inr (Or.inl ⟨rfl, rfl, _, rfl⟩)) (hb hby d6_34) hl)
    subst hr8
    exact ⟨(by unfold own_nc_r; first | exact rfl | (simp only [if_neg hc1]; first | done | exact rfl)), N7, e7⟩
theorem own_fmT (x y : Int64) (hy : 0 < y.toInt) : (own_fm x y).toInt = x.toInt % y.toInt := by
  have e0 : (0 : Int64).toInt = 0 := rfl
  have m := Int64.toInt_mod x y
  have q := c_xorSL x y
  have b1 := Int.emod_nonneg x.toInt (b := y.toInt) (by omega)
  have b2 := Int.emod_lt_of_pos x.toInt hy
  have ry := rng64 y
  unfold own_fm
  simp only [Int64.lt_iff_toInt_lt, ← Int64.toInt_inj, e0]
  by_cases c : x.toInt < 0
  · rw [if_pos (q.2.1 c (by omega))]
    have t := (tr x.toInt y.toInt).2 c
    rw [t] at m
    have n1 := Int.emod_nonneg (-x.toInt) (b := y.toInt) (by omega)
    have n2 := Int.emod_lt_of_pos (-x.toInt) hy
    have n3 : x.toInt % y.toInt = if (-x.toInt) % y.toInt = 0 then 0 else y.toInt - (-x.toInt) % y.toInt := by
      have g1 := Int.mul_ediv_add_emod (-x.toInt) y.toInt
      generalize (-x.toInt) % y.toInt = r at *
      generalize (-x.toInt) / y.toInt = k at *
      split
      · rename_i hr
        have : x.toInt = y.toInt * (-k) := by rw [Int.mul_neg]; omega
        rw [this, Int.mul_emod_right]
      · have : x.toInt = (y.toInt - r) + y.toInt * (-k - 1) := by rw [Int.mul_sub, Int.mul_neg]; omega
        rw [this, Int.add_mul_emod_self_left, Int.emod_eq_of_lt (by omega) (by omega)]
    rw [n3]
    have a := c_ladd (x % y) y
    have r := rng64 (x % y + y)
    generalize x % y + y = Z at *
    generalize x % y = W at *
    generalize (-x.toInt) % y.toInt = R at *
    split <;> split <;> omega
  · rw [if_neg (by have := q.2.2.2 (by omega) (by omega); omega), m, Int.tmod_eq_emod_of_nonneg (by omega)]

theorem own_iv (p2 : Int32) : 1 ≤ (((1 : Int64) + ((p2 &&& (2147483647 : Int32)).toInt64))).toInt ∧ (((1 : Int64) + ((p2 &&& (2147483647 : Int32)).toInt64))).toInt ≤ 2147483648 := by
  have h := c_mask p2 2147483647 31 (by decide) (by decide)
  have h2 := c_i2l (p2 &&& (2147483647 : Int32))
  generalize (p2 &&& (2147483647 : Int32)) = m at *
  generalize m.toInt64 = M at *
  have a := c_ladd 1 M
  have e1 : (1 : Int64).toInt = 1 := rfl
  have r := rng64 (1 + M)
  generalize 1 + M = Y at *
  omega
theorem own_main (x iv : Int64) (h1 : 1 ≤ iv.toInt) (h2 : iv.toInt ≤ 2147483648) (hx : -2305843009213693952 ≤ x.toInt) (hx2 : x.toInt < 2305843009213693952) :
    own_bw_r (own_is_r x iv) iv (iv / 4) = own_na_r (((own_is_r x iv) + iv) - 1) (iv / 4) iv := by
  unfold own_bw_r own_na_r own_is_r
  have f1 := own_fmT x iv (by omega)
  have g1 := Int.mul_ediv_add_emod x.toInt iv.toInt
  have g2 := Int.emod_nonneg x.toInt (b := iv.toInt) (by omega)
  have g3 := Int.emod_lt_of_pos x.toInt (b := iv.toInt) (by omega)
  have a1 := c_lsub x (own_fm x iv)
  have r1 := rng64 (x - own_fm x iv)
  generalize own_fm x iv = F at *
  generalize hd : x - F = d at *
  have d1 : d.toInt = x.toInt - F.toInt := by omega
  clear a1
  have dd : d.toInt = iv.toInt * (x.toInt / iv.toInt) := by omega
  have a2 := c_ladd d iv
  have r2 := rng64 (d + iv)
  generalize d + iv = u at *
  have u1 : u.toInt = d.toInt + iv.toInt := by omega
  clear a2
  have e1 : (1 : Int64).toInt = 1 := rfl
  have a3 := c_lsub u 1
  have r3 := rng64 (u - 1)
  rw [e1] at a3
  have f2 := own_fmT (u - 1) iv (by omega)
  generalize hn : u - 1 = now at *
  have o1 : now.toInt = u.toInt - 1 := by omega
  clear a3
  have n1 : now.toInt = (iv.toInt - 1) + iv.toInt * (x.toInt / iv.toInt) := by omega
  rw [n1, Int.add_mul_emod_self_left, Int.emod_eq_of_lt (by omega) (by omega)] at f2
  have a4 := c_lsub now (own_fm now iv)
  have r4 := rng64 (now - own_fm now iv)
  generalize own_fm now iv = F2 at *
  generalize hs : now - F2 = st at *
  have s1 : st.toInt = now.toInt - F2.toInt := by omega
  clear a4
  have ds : st = d := Int64.toInt_inj.mp (by omega)
  rw [ds]
  have q := (c_ldiv iv 4 4 rfl (by decide)).1 (by omega)
  generalize iv / 4 = Q at *
  have a5 := c_ladd d Q
  have r5 := rng64 (d + Q)
  have t1 : (d + Q).toInt = d.toInt + Q.toInt := by omega
  clear a5
  have a6 := c_ladd (d + Q) iv
  have r6 := rng64 (d + Q + iv)
  have t2 : (d + Q + iv).toInt = (d + Q).toInt + iv.toInt := by omega
  clear a6
  have a7 := c_ladd u Q
  have r7 := rng64 (u + Q)
  have t3 : (u + Q).toInt = u.toInt + Q.toInt := by omega
  clear a7
  rw [if_neg (by rw [Int64.lt_iff_toInt_lt]; omega)]
  exact Int64.toInt_inj.mp (by omega)
def Q0 (n0 : Nat) (v : Option Value) (h : Heap) (L : List Loc) : Prop := v = some (.int (1 : Int32)) ∧ Fr n0 L
theorem own_pn1 : plainName "com/example/keyfold/keyfold/CommitScheduleBacklogWaitEndPinLaw" = true := by first | (simp [plainName, overriddenIn]; done) | decide +kernel
theorem own_pd2 : parseMethodDescriptor "(JII)V" = some ⟨[.long, .int, .int], none⟩ := by decide +kernel
theorem own_eq0 (p2 : Int32)  : (((1 : Int64) + ((p2 &&& (2147483647 : Int32)).toInt64))) ≠ 0 := by
  have h := own_iv p2
  intro e
  rw [e] at h
  have e0 : (0 : Int64).toInt = 0 := rfl
  omega
theorem own_pd3 : parseMethodDescriptor "(JI)J" = some ⟨[.long, .int], some .long⟩ := by decide +kernel
theorem own_eq1 (p2 : Int32)  : 1 ≤ (((1 : Int64) + ((p2 &&& (2147483647 : Int32)).toInt64))).toInt ∧ (((1 : Int64) + ((p2 &&& (2147483647 : Int32)).toInt64))).toInt ≤ 2147483648 := by
  exact own_iv p2
theorem own_eq2 (p1 : Int64) (v1 : Int64) (hp0 : 1 ≤ v1.toInt ∧ v1.toInt ≤ 2147483648) : ((own_bw_r ((own_is_r (p1 >>> ((2 : Int32) &&& 0x3f).toInt64) v1)) v1 ((own_init_quarterMs v1)))) = ((own_nc_r ((((own_is_r (p1 >>> ((2 : Int32) &&& 0x3f).toInt64) v1)) + v1) - (1 : Int64)) (0 : Int32) v1 ((own_init_quarterMs v1)) ((own_init_firstCommitMs v1 (2 : Int32))) ((own_init_standInStepMs v1 (1 : Int32))))) := by
  have s := c_lshr p1 2 2 rfl
  have r := rng64 p1
  generalize (p1 >>> ((2 : Int32) &&& 0x3f).toInt64) = x at *
  have m := own_main x v1 hp0.1 hp0.2 (by omega) (by omega)
  unfold own_nc_r own_init_firstCommitMs own_init_quarterMs
  rw [if_pos rfl, if_neg (by decide : ¬ (2 : Int32) = 1), if_pos (by decide : nar .boolean (0 : Int32) = 0)]
  exact m
set_option maxRecDepth 65536 in
set_option maxHeartbeats 40000000 in
theorem rm0 (l : Launch) (Z : State) (a0 : Array Value) (hw : ∀ d ∈ tables_1, d.before a0 Z = true) (ws : List Jvm.Cond) (p1 : Int64) (p2 : Int32) (p3 : Int32) (p4 : Int32) (h0 : Heap) (n0 : Nat) (Z0 : n0 ≤ h0.size)  :
    MetFree l x (head1 (Jvm.Cond.code x code maxLocals ret :: ws) room_1) (fun aa U => aa = #[(.long p1), (.int p2), (.int p3), (.int p4)] ∧ Z.Warmed39 U.vm ∧ U.heap = h0) (fun _ _ _ _ _ => True) (fun _ U o U' => ∃ v L, o = .returned v ∧ Q0 n0 v U'.heap L ∧ FrameEnd U o U' L room_1.cells room_1.slots) := by
  refine MetFree.of_bodySF (plainFor_of_name own_pn1) hisR ?_
  intro p e s m args below meth c s₁ Bd hml0 hP hK
  obtain ⟨rfl, hZ, hh⟩ := hP
  have hx := Bd.exec
  have hby := Bd.bytes
  have hml : c.maxLocals = 17 := hml0
  have hlk : meth.locks = false := BodyLoose.notSynchronized Bd
  have hown : s.vm.findClass "com/example/keyfold/keyfold/CommitScheduleBacklogWaitEndPinLaw" = some m.cls := findClass_of_methodNamed Bd.named
  have hnm := (name_of_methodNamed Bd.named Bd.method).1
  have X0 : Stand p l e room_1 s m #[(.long p1), (.int p2), (.int p3), (.int p4)] below meth c s₁ [] 0 0 := Stand.of_body Bd
  have e0 : s₁.heap = h0 := by rw [← hh, Bd.state]; rfl
  have N0 := Fr.nil n0
  show own_Go p e below s (Q0 n0) room_1.cells room_1.slots (s₁.setTop (entryFrame m #[(.long p1), (.int p2), (.int p3), (.int p4)] maxLocals))
  refine own_go (B := s₁.setTop (mkF m 0 #[.val (.long p1), .second, .val (.int p2), .val (.int p3), .val (.int p4), .unset, .unset, .unset, .unset, .unset, .unset, .unset, .unset, .unset, .unset, .unset, .unset] [])) (fun tgt cont => (XT.entry rfl).trans cont) ?_
  refine own_go (B := s₁.setTop (mkF m 7 #[.val (.long p1), .second, .val (.int p2), .val (.int p3), .val (.int p4), .unset, .unset, .unset, .unset, .unset, .unset, .unset, .unset, .unset, .unset, .unset, .unset] [(.long ((1 : Int64) + ((p2 &&& (2147483647 : Int32)).toInt64)))])) (fun tgt cont => ?_) ?_
  · refine XT.lconstV X0.here hx rfl (1 : Int64) (hb hby at_0) rfl ?_
    refine XS.iloadN X0.here hx rfl (hb hby at_1) rfl ?_
    refine Stand.ldcI X0 hx hown (mvT hZ (hw _ (List.mem_of_getElem? (i := 0) rfl))) rfl (hb hby at_2) ?_
    refine XS.iand X0.here hx rfl (hb hby at_4) rfl ?_
    refine XS.i2l X0.here hx rfl (hb hby at_5) rfl ?_
    refine XS.ladd X0.here hx rfl (hb hby at_6) rfl ?_
    exact cont
  generalize hv1 : ((1 : Int64) + ((p2 &&& (2147483647 : Int32)).toInt64)) = v1
  refine own_go (B := s₁.setTop (mkF m 15 #[.val (.long p1), .second, .val (.int p2), .val (.int p3), .val (.int p4), .val (.long v1), .second, .unset, .unset, .unset, .unset, .unset, .unset, .unset, .unset, .unset, .unset] [(.int ((1 : Int32) + (p3 &&& (7 : Int32))))])) (fun tgt cont => ?_) ?_
  · refine XS.lstore X0.here hx rfl (hb hby at_7) rfl (l' := #[.val (.long p1), .second, .val (.int p2), .val (.int p3), .val (.int p4), .val (.long v1), .second, .unset, .unset, .unset, .unset, .unset, .unset, .unset, .unset, .unset, .unset]) rfl ?_
    refine XT.iconstV X0.here hx rfl (1 : Int32) (hb hby at_9) rfl ?_
    refine XS.iloadN X0.here hx rfl (hb hby at_10) rfl ?_
    refine XT.bipushV X0.here hx rfl (7 : Int32) (hb hby at_11) rfl ?_
    refine XS.iand X0.here hx rfl (hb hby at_13) rfl ?_
    refine XS.iadd X0.here hx rfl (hb hby at_14) rfl ?_
    exact cont
  generalize hv2 : ((1 : Int32) + (p3 &&& (7 : Int32))) = v2
  refine own_go (B := s₁.setTop (mkF m 25 #[.val (.long p1), .second, .val (.int p2), .val (.int p3), .val (.int p4), .val (.long v1), .second, .val (.int v2), .unset, .unset, .unset, .unset, .unset, .unset, .unset, .unset, .unset] [(.int ((1 : Int32) + (p4 &&& (255 : Int32))))])) (fun tgt cont => ?_) ?_
  · refine XS.istore X0.here hx rfl (hb hby at_15) rfl (l' := #[.val (.long p1), .second, .val (.int p2), .val (.int p3), .val (.int p4), .val (.long v1), .second, .val (.int v2), .unset, .unset, .unset, .unset, .unset, .unset, .unset, .unset, .unset]) rfl ?_
    refine XT.iconstV X0.here hx rfl (1 : Int32) (hb hby at_17) rfl ?_
    refine XS.iload X0.here hx rfl (hb hby at_18) rfl ?_
    refine XT.sipushV X0.here hx rfl (255 : Int32) (hb hby at_20) rfl ?_
    refine XS.iand X0.here hx rfl (hb hby at_23) rfl ?_
    refine XS.iadd X0.here hx rfl (hb hby at_24) rfl ?_
    exact cont
  generalize hv3 : ((1 : Int32) + (p4 &&& (255 : Int32))) = v3
  refine own_go (B := s₁.setTop (mkF m 27 #[.val (.long p1), .second, .val (.int p2), .val (.int p3), .val (.int p4), .val (.long v1), .second, .val (.int v2), .val (.int v3), .unset, .unset, .unset, .unset, .unset, .unset, .unset, .unset] [])) (fun tgt cont => ?_) ?_
  · refine XS.istore X0.here hx rfl (hb hby at_25) rfl (l' := #[.val (.long p1), .second, .val (.int p2), .val (.int p3), .val (.int p4), .val (.long v1), .second, .val (.int v2), .val (.int v3), .unset, .unset, .unset, .unset, .unset, .unset, .unset, .unset]) rfl ?_
    exact cont
  obtain ⟨T4, h4, X4, e4, E4, A4, D4, -, st4⟩ := newO X0 hx hZ hown (hw _ (List.mem_of_getElem? (i := 1) rfl)) (hw _ (List.mem_of_getElem? (i := 2) rfl)) (hw _ (List.mem_of_getElem? (i := 3) rfl)) e0 (g := (mkF m 27 #[.val (.long p1), .second, .val (.int p2), .val (.int p3), .val (.int p4), .val (.long v1), .second, .val (.int v2), .val (.int v3), .unset, .unset, .unset, .unset, .unset, .unset, .unset, .unset] [])) rfl (hb hby at_27) (by decide) (by decide)
  obtain ⟨b4, g4⟩ : ∃ z, z = h0.size := ⟨_, rfl⟩
  rw [← g4] at A4 D4 st4
  have g_b4 : n0 ≤ b4 := Nat.le_trans Z0 (Nat.le_of_eq g4.symm)
  have sz_b4 : h0.size ≤ b4 := Nat.le_trans (Keep.refl h0 []).1 (Nat.le_of_eq g4.symm)
  have kk4 : Keep h0 h4 [] := (Keep.refl h0 []).ext E4
  have zp4 : n0 ≤ h4.size := Nat.le_trans Z0 kk4.1
  have F_intervalMs_b4 : Fld Z h4 b4 "com/example/keyfold/keyfold/CommitSchedule" "intervalMs" "J" (.long (0 : Int64)) := D4 (Or.inr (hw _ (List.mem_of_getElem? (i := 11) rfl))) (ty := .long) (by decide)
  have F_quarterMs_b4 : Fld Z h4 b4 "com/example/keyfold/keyfold/CommitSchedule" "quarterMs" "J" (.long (0 : Int64)) := D4 (Or.inr (hw _ (List.mem_of_getElem? (i := 14) rfl))) (ty := .long) (by decide)
  have F_committers_b4 : Fld Z h4 b4 "com/example/keyfold/keyfold/CommitSchedule" "committers" "I" (.int (0 : Int32)) := D4 (Or.inr (hw _ (List.mem_of_getElem? (i := 16) rfl))) (ty := .int) (by decide)
  have F_oneTask_b4 : Fld Z h4 b4 "com/example/keyfold/keyfold/CommitSchedule" "oneTask" "Z" (.int (0 : Int32)) := D4 (Or.inr (hw _ (List.mem_of_getElem? (i := 18) rfl))) (ty := .boolean) (by decide)
  have F_firstCommitMs_b4 : Fld Z h4 b4 "com/example/keyfold/keyfold/CommitSchedule" "firstCommitMs" "J" (.long (0 : Int64)) := D4 (Or.inr (hw _ (List.mem_of_getElem? (i := 20) rfl))) (ty := .long) (by decide)
  have F_standInStepMs_b4 : Fld Z h4 b4 "com/example/keyfold/keyfold/CommitSchedule" "standInStepMs" "J" (.long (0 : Int64)) := D4 (Or.inr (hw _ (List.mem_of_getElem? (i := 23) rfl))) (ty := .long) (by decide)
  refine own_go (fun tgt cont => st4 tgt cont) ?_
  show own_Go p e below s (Q0 n0) room_1.cells room_1.slots (T4.setTop (mkF m 30 #[.val (.long p1), .second, .val (.int p2), .val (.int p3), .val (.int p4), .val (.long v1), .second, .val (.int v2), .val (.int v3), .unset, .unset, .unset, .unset, .unset, .unset, .unset, .unset] [(.ref b4)]))
  refine own_go (B := T4.setTop (mkF m 37 #[.val (.long p1), .second, .val (.int p2), .val (.int p3), .val (.int p4), .val (.long v1), .second, .val (.int v2), .val (.int v3), .unset, .unset, .unset, .unset, .unset, .unset, .unset, .unset] [(.int v3), (.int v2), (.long v1), (.ref b4), (.ref b4)])) (fun tgt cont => ?_) ?_
  · refine XS.dup X4.here hx rfl (hb hby at_30) rfl rfl ?_
    refine XS.lload X4.here hx rfl (hb hby at_31) rfl ?_
    refine XS.iload X4.here hx rfl (hb hby at_33) rfl ?_
    refine XS.iload X4.here hx rfl (hb hby at_35) rfl ?_
    exact cont
  -- pc 37: CommitSchedule.<init>
  obtain ⟨_, _, ⟨T5, L5, k5, n5⟩, -, X5, ⟨Lc5, hQ5, l5, y5, z5⟩, st5⟩ := X4.specialBack hx (y := (⟨"com/example/keyfold/keyfold/CommitSchedule", "<init>", "(JII)V"⟩ : MethodName)) rfl hown (mvT hZ (hw _ (List.mem_of_getElem? (i := 4) rfl))) (mvT hZ (hw _ (List.mem_of_getElem? (i := 5) rfl))) (mvT hZ (hw _ (List.mem_of_getElem? (i := 6) rfl))) (by decide) (backOf (W := 1) (rm1 l Z a0 hw [] b4 v1 v2 v3 (0 : Int64) (0 : Int64) (0 : Int32) (0 : Int32) (0 : Int64) (0 : Int64) h4 n0 zp4 A4 F_intervalMs_b4 F_quarterMs_b4 F_committers_b4 F_oneTask_b4 F_firstCommitMs_b4 F_standInStepMs_b4 g_b4) hZ (hw _ (List.mem_of_getElem? (i := 6) rfl)) (hw _ (List.mem_of_getElem? (i := 3) rfl)) (by decide) (by decide)) (g := (mkF m 37 #[.val (.long p1), .second, .val (.int p2), .val (.int p3), .val (.int p4), .val (.long v1), .second, .val (.int v2), .val (.int v3), .unset, .unset, .unset, .unset, .unset, .unset, .unset, .unset] [(.int v3), (.int v2), (.long v1), (.ref b4), (.ref b4)])) rfl (by rw [hml]; rfl) (Steps.refl _) (a := b4) (argsL := [(.long v1), (.int v2), (.int v3)]) (rest := [(.ref b4)]) (lenOf own_pd2 rfl) rfl (by show 2 * 0 + _ ≤ _; exact Nat.le_of_eq rfl) (hb hby at_37) (fun _ _ => ⟨rfl, e4, (by decide : 0 + 1 + 0 ≤ _), (by decide : 0 + 6 + 0 ≤ _)⟩)
  dsimp only [Pt.U, Pt.locs, Pt.cells, Pt.slots] at X5 l5 y5 z5 st5 hQ5
  subst l5 y5 z5
  obtain ⟨rfl, N5q, K5, ex5_0, fa5_0, fa5_1, fa5_2, fa5_3, fa5_4, fa5_5⟩ := hQ5
  have N5 := Fr.app N0 N5q
  have kk5 : Keep h0 T5.heap [] := kk4.trans K5 (allS (Or.inr sz_b4) all0)
  have zp5 : n0 ≤ T5.heap.size := Nat.le_trans Z0 kk5.1
  generalize hw6 : (own_init_quarterMs v1) = w6 at fa5_1
  generalize hw7 : (own_init_oneTask v3) = w7 at fa5_3
  generalize hw8 : (own_init_firstCommitMs v1 v3) = w8 at fa5_4
  generalize hw9 : (own_init_standInStepMs v1 v2) = w9 at fa5_5
  refine own_go (fun tgt cont => st5.trans cont) ?_
  show own_Go p e below s (Q0 n0) room_1.cells room_1.slots (T5.setTop (mkF m 40 #[.val (.long p1), .second, .val (.int p2), .val (.int p3), .val (.int p4), .val (.long v1), .second, .val (.int v2), .val (.int v3), .unset, .unset, .unset, .unset, .unset, .unset, .unset, .unset] [(.ref b4)]))
  refine own_go (B := T5.setTop (mkF m 42 #[.val (.long p1), .second, .val (.int p2), .val (.int p3), .val (.int p4), .val (.long v1), .second, .val (.int v2), .val (.int v3), .val (.ref b4), .unset, .unset, .unset, .unset, .unset, .unset, .unset] [])) (fun tgt cont => ?_) ?_
  · refine XS.astore X5.here hx rfl (hb hby at_40) rfl rfl (l' := #[.val (.long p1), .second, .val (.int p2), .val (.int p3), .val (.int p4), .val (.long v1), .second, .val (.int v2), .val (.int v3), .val (.ref b4), .unset, .unset, .unset, .unset, .unset, .unset, .unset]) rfl ?_
    exact cont
  obtain ⟨T10, h10, X10, e10, E10, A10, D10, -, st10⟩ := newO X5 hx hZ hown (hw _ (List.mem_of_getElem? (i := 1) rfl)) (hw _ (List.mem_of_getElem? (i := 2) rfl)) (hw _ (List.mem_of_getElem? (i := 3) rfl)) rfl (g := (mkF m 42 #[.val (.long p1), .second, .val (.int p2), .val (.int p3), .val (.int p4), .val (.long v1), .second, .val (.int v2), .val (.int v3), .val (.ref b4), .unset, .unset, .unset, .unset, .unset, .unset, .unset] [])) rfl (hb hby at_42) (by decide) (by decide)
  obtain ⟨b10, g10⟩ : ∃ z, z = T5.heap.size := ⟨_, rfl⟩
  rw [← g10] at A10 D10 st10
  have g_b10 : n0 ≤ b10 := Nat.le_trans zp5 (Nat.le_of_eq g10.symm)
  have sz_b10 : h0.size ≤ b10 := Nat.le_trans kk5.1 (Nat.le_of_eq g10.symm)
  have ne_b4_b10 : b4 ≠ b10 := Nat.ne_of_lt (by rw [g10]; exact ex5_0.lt)
  have kk10 : Keep h0 h10 [] := kk5.ext E10
  have zp10 : n0 ≤ h10.size := Nat.le_trans Z0 kk10.1
  have F_intervalMs_b10 : Fld Z h10 b10 "com/example/keyfold/keyfold/CommitSchedule" "intervalMs" "J" (.long (0 : Int64)) := D10 (Or.inr (hw _ (List.mem_of_getElem? (i := 11) rfl))) (ty := .long) (by decide)
  have F_quarterMs_b10 : Fld Z h10 b10 "com/example/keyfold/keyfold/CommitSchedule" "quarterMs" "J" (.long (0 : Int64)) := D10 (Or.inr (hw _ (List.mem_of_getElem? (i := 14) rfl))) (ty := .long) (by decide)
  have F_committers_b10 : Fld Z h10 b10 "com/example/keyfold/keyfold/CommitSchedule" "committers" "I" (.int (0 : Int32)) := D10 (Or.inr (hw _ (List.mem_of_getElem? (i := 16) rfl))) (ty := .int) (by decide)
  have F_oneTask_b10 : Fld Z h10 b10 "com/example/keyfold/keyfold/CommitSchedule" "oneTask" "Z" (.int (0 : Int32)) := D10 (Or.inr (hw _ (List.mem_of_getElem? (i := 18) rfl))) (ty := .boolean) (by decide)
  have F_firstCommitMs_b10 : Fld Z h10 b10 "com/example/keyfold/keyfold/CommitSchedule" "firstCommitMs" "J" (.long (0 : Int64)) := D10 (Or.inr (hw _ (List.mem_of_getElem? (i := 20) rfl))) (ty := .long) (by decide)
  have F_standInStepMs_b10 : Fld Z h10 b10 "com/example/keyfold/keyfold/CommitSchedule" "standInStepMs" "J" (.long (0 : Int64)) := D10 (Or.inr (hw _ (List.mem_of_getElem? (i := 23) rfl))) (ty := .long) (by decide)
  refine own_go (fun tgt cont => st10 tgt cont) ?_
  show own_Go p e below s (Q0 n0) room_1.cells room_1.slots (T10.setTop (mkF m 45 #[.val (.long p1), .second, .val (.int p2), .val (.int p3), .val (.int p4), .val (.long v1), .second, .val (.int v2), .val (.int v3), .val (.ref b4), .unset, .unset, .unset, .unset, .unset, .unset, .unset] [(.ref b10)]))
  refine own_go (B := T10.setTop (mkF m 50 #[.val (.long p1), .second, .val (.int p2), .val (.int p3), .val (.int p4), .val (.long v1), .second, .val (.int v2), .val (.int v3), .val (.ref b4), .unset, .unset, .unset, .unset, .unset, .unset, .unset] [(.int (2 : Int32)), (.int (1 : Int32)), (.long v1), (.ref b10), (.ref b10)])) (fun tgt cont => ?_) ?_
  · refine XS.dup X10.here hx rfl (hb hby at_45) rfl rfl ?_
    refine XS.lload X10.here hx rfl (hb hby at_46) rfl ?_
    refine XT.iconstV X10.here hx rfl (1 : Int32) (hb hby at_48) rfl ?_
    refine XT.iconstV X10.here hx rfl (2 : Int32) (hb hby at_49) rfl ?_
    exact cont
  -- pc 50: CommitSchedule.<init>
  obtain ⟨_, _, ⟨T11, L11, k11, n11⟩, -, X11, ⟨Lc11, hQ11, l11, y11, z11⟩, st11⟩ := X10.specialBack hx (y := (⟨"com/example/keyfold/keyfold/CommitSchedule", "<init>", "(JII)V"⟩ : MethodName)) rfl hown (mvT hZ (hw _ (List.mem_of_getElem? (i := 4) rfl))) (mvT hZ (hw _ (List.mem_of_getElem? (i := 5) rfl))) (mvT hZ (hw _ (List.mem_of_getElem? (i := 6) rfl))) (by decide) (backOf (W := 1) (rm1 l Z a0 hw [] b10 v1 (1 : Int32) (2 : Int32) (0 : Int64) (0 : Int64) (0 : Int32) (0 : Int32) (0 : Int64) (0 : Int64) h10 n0 zp10 A10 F_intervalMs_b10 F_quarterMs_b10 F_committers_b10 F_oneTask_b10 F_firstCommitMs_b10 F_standInStepMs_b10 g_b10) hZ (hw _ (List.mem_of_getElem? (i := 6) rfl)) (hw _ (List.mem_of_getElem? (i := 3) rfl)) (by decide) (by decide)) (g := (mkF m 50 #[.val (.long p1), .second, .val (.int p2), .val (.int p3), .val (.int p4), .val (.long v1), .second, .val (.int v2), .val (.int v3), .val (.ref b4), .unset, .unset, .unset, .unset, .unset, .unset, .unset] [(.int (2 : Int32)), (.int (1 : Int32)), (.long v1), (.ref b10), (.ref b10)])) rfl (by rw [hml]; rfl) (Steps.refl _) (a := b10) (argsL := [(.long v1), (.int (1 : Int32)), (.int (2 : Int32))]) (rest := [(.ref b10)]) (lenOf own_pd2 rfl) rfl (by show 2 * 0 + _ ≤ _; exact Nat.le_of_eq rfl) (hb hby at_50) (fun _ _ => ⟨rfl, e10, (by decide : 0 + 1 + 0 + 1 + 0 ≤ _), (by decide : 0 + 6 + 0 + 6 + 0 ≤ _)⟩)
  dsimp only [Pt.U, Pt.locs, Pt.cells, Pt.slots] at X11 l11 y11 z11 st11 hQ11
  subst l11 y11 z11
  obtain ⟨rfl, N11q, K11, ex11_0, fa11_0, fa11_1, fa11_2, fa11_3, fa11_4, fa11_5⟩ := hQ11
  have N11 := Fr.app N5 N11q
  have kk11 : Keep h0 T11.heap [] := kk10.trans K11 (allS (Or.inr sz_b10) all0)
  have zp11 : n0 ≤ T11.heap.size := Nat.le_trans Z0 kk11.1
  generalize hw12 : (own_init_quarterMs v1) = w12 at fa11_1
  generalize hw13 : (own_init_oneTask (2 : Int32)) = w13 at fa11_3
  generalize hw14 : (own_init_firstCommitMs v1 (2 : Int32)) = w14 at fa11_4
  generalize hw15 : (own_init_standInStepMs v1 (1 : Int32)) = w15 at fa11_5
  refine own_go (fun tgt cont => st11.trans cont) ?_
  show own_Go p e below s (Q0 n0) room_1.cells room_1.slots (T11.setTop (mkF m 53 #[.val (.long p1), .second, .val (.int p2), .val (.int p3), .val (.int p4), .val (.long v1), .second, .val (.int v2), .val (.int v3), .val (.ref b4), .unset, .unset, .unset, .unset, .unset, .unset, .unset] [(.ref b10)]))
  refine own_go (B := T11.setTop (mkF m 60 #[.val (.long p1), .second, .val (.int p2), .val (.int p3), .val (.int p4), .val (.long v1), .second, .val (.int v2), .val (.int v3), .val (.ref b4), .val (.ref b10), .unset, .unset, .unset, .unset, .unset, .unset] [(.long (p1 >>> ((2 : Int32) &&& 0x3f).toInt64)), (.ref b4)])) (fun tgt cont => ?_) ?_
  · refine XS.astore X11.here hx rfl (hb hby at_53) rfl rfl (l' := #[.val (.long p1), .second, .val (.int p2), .val (.int p3), .val (.int p4), .val (.long v1), .second, .val (.int v2), .val (.int v3), .val (.ref b4), .val (.ref b10), .unset, .unset, .unset, .unset, .unset, .unset]) rfl ?_
    refine XS.aload X11.here hx rfl (hb hby at_55) rfl rfl ?_
    refine XS.lloadN X11.here hx rfl (hb hby at_57) rfl ?_
    refine XT.iconstV X11.here hx rfl (2 : Int32) (hb hby at_58) rfl ?_
    refine XS.lshr X11.here hx rfl (hb hby at_59) rfl ?_
    exact cont
  -- pc 60: CommitSchedule.intervalStart
  have f17 := ((ex5_0.ext E10).keep K11)
  have f18 := ((fa5_0.ext E10).keep K11 (ninS ne_b4_b10 nin0))
  obtain ⟨cq16, kq16, qa16, qb16, qc16⟩ := isOf hZ rfl f17
  obtain ⟨_, _, ⟨T16, L16, k16, n16⟩, -, X16, ⟨Lc16, hQ16, l16, y16, z16⟩, st16⟩ := X11.virtualBack hx (y := (⟨"com/example/keyfold/keyfold/CommitSchedule", "intervalStart", "(J)J"⟩ : MethodName)) (z := (⟨"com/example/keyfold/keyfold/CommitSchedule", "intervalStart", "(J)J"⟩ : MethodName)) hown (mvT hZ (hw _ (List.mem_of_getElem? (i := 24) rfl))) (mvT hZ (hw _ (List.mem_of_getElem? (i := 25) rfl))) (notFace_of_selects (args := #[]) (mvT hZ (hw _ (List.mem_of_getElem? (i := 27) rfl)))) (mvT hZ (hw _ (List.mem_of_getElem? (i := 27) rfl))) (mvT hZ (hw _ (List.mem_of_getElem? (i := 26) rfl))) (by decide) (backOf (W := 0) (rm3 l Z a0 hw [] b4 (p1 >>> ((2 : Int32) &&& 0x3f).toInt64) v1 T11.heap n0 zp11 f17 f18 (by subst hv1; exact own_eq0 p2 )) hZ (hw _ (List.mem_of_getElem? (i := 28) rfl)) (hw _ (List.mem_of_getElem? (i := 3) rfl)) (by decide) (by decide)) qa16 qc16 (g := (mkF m 60 #[.val (.long p1), .second, .val (.int p2), .val (.int p3), .val (.int p4), .val (.long v1), .second, .val (.int v2), .val (.int v3), .val (.ref b4), .val (.ref b10), .unset, .unset, .unset, .unset, .unset, .unset] [(.long (p1 >>> ((2 : Int32) &&& 0x3f).toInt64)), (.ref b4)])) rfl (by rw [hml]; rfl) (Steps.refl _) (argsL := [(.long (p1 >>> ((2 : Int32) &&& 0x3f).toInt64))]) (rest := []) (lenOf own_pd1 rfl) rfl (by show 2 * 0 + _ ≤ _; exact Nat.le_of_eq rfl) (hb hby at_60) (fun _ _ => ⟨rfl, rfl, (by decide : 0 + 1 + 0 + 1 + 0 + 0 ≤ _), (by decide : 0 + 6 + 0 + 6 + 0 + 0 ≤ _)⟩)
  dsimp only [Pt.U, Pt.locs, Pt.cells, Pt.slots] at X16 l16 y16 z16 st16 hQ16
  subst l16 y16 z16
  obtain ⟨rfl, N16q, e16⟩ := hQ16
  have N16 := Fr.app N11 N16q
  refine own_go (fun tgt cont => st16.trans cont) ?_
  show own_Go p e below s (Q0 n0) room_1.cells room_1.slots (T16.setTop (mkF m 63 #[.val (.long p1), .second, .val (.int p2), .val (.int p3), .val (.int p4), .val (.long v1), .second, .val (.int v2), .val (.int v3), .val (.ref b4), .val (.ref b10), .unset, .unset, .unset, .unset, .unset, .unset] [(.long (own_is_r (p1 >>> ((2 : Int32) &&& 0x3f).toInt64) v1))]))
  generalize hr19 : (own_is_r (p1 >>> ((2 : Int32) &&& 0x3f).toInt64) v1) = r19
  refine own_go (B := T16.setTop (mkF m 69 #[.val (.long p1), .second, .val (.int p2), .val (.int p3), .val (.int p4), .val (.long v1), .second, .val (.int v2), .val (.int v3), .val (.ref b4), .val (.ref b10), .val (.long r19), .second, .unset, .unset, .unset, .unset] [(.long r19), (.ref b4)])) (fun tgt cont => ?_) ?_
  · refine XS.lstore X16.here hx rfl (hb hby at_63) rfl (l' := #[.val (.long p1), .second, .val (.int p2), .val (.int p3), .val (.int p4), .val (.long v1), .second, .val (.int v2), .val (.int v3), .val (.ref b4), .val (.ref b10), .val (.long r19), .second, .unset, .unset, .unset, .unset]) rfl ?_
    refine XS.aload X16.here hx rfl (hb hby at_65) rfl rfl ?_
    refine XS.lload X16.here hx rfl (hb hby at_67) rfl ?_
    exact cont
  -- pc 69: CommitSchedule.backlogWaitEnd
  have f21 := ((fa5_1.ext E10).keep K11 (ninS ne_b4_b10 nin0))
  obtain ⟨cq20, kq20, qa20, qb20, qc20⟩ := isOf hZ e16 f17
  obtain ⟨_, _, ⟨T20, L20, k20, n20⟩, -, X20, ⟨Lc20, hQ20, l20, y20, z20⟩, st20⟩ := X16.virtualBack hx (y := (⟨"com/example/keyfold/keyfold/CommitSchedule", "backlogWaitEnd", "(J)J"⟩ : MethodName)) (z := (⟨"com/example/keyfold/keyfold/CommitSchedule", "backlogWaitEnd", "(J)J"⟩ : MethodName)) hown (mvT hZ (hw _ (List.mem_of_getElem? (i := 33) rfl))) (mvT hZ (hw _ (List.mem_of_getElem? (i := 34) rfl))) (notFace_of_selects (args := #[]) (mvT hZ (hw _ (List.mem_of_getElem? (i := 36) rfl)))) (mvT hZ (hw _ (List.mem_of_getElem? (i := 36) rfl))) (mvT hZ (hw _ (List.mem_of_getElem? (i := 35) rfl))) (by decide) (backOf (W := 0) (rm5 l Z a0 hw [] b4 r19 v1 w6 T11.heap n0 zp11 f17 f18 f21) hZ (hw _ (List.mem_of_getElem? (i := 37) rfl)) (hw _ (List.mem_of_getElem? (i := 3) rfl)) (by decide) (by decide)) qa20 qc20 (g := (mkF m 69 #[.val (.long p1), .second, .val (.int p2), .val (.int p3), .val (.int p4), .val (.long v1), .second, .val (.int v2), .val (.int v3), .val (.ref b4), .val (.ref b10), .val (.long r19), .second, .unset, .unset, .unset, .unset] [(.long r19), (.ref b4)])) rfl (by rw [hml]; rfl) (Steps.refl _) (argsL := [(.long r19)]) (rest := []) (lenOf own_pd1 rfl) rfl (by show 2 * 0 + _ ≤ _; exact Nat.le_of_eq rfl) (hb hby at_69) (fun _ _ => ⟨rfl, e16, (by decide : 0 + 1 + 0 + 1 + 0 + 0 + 0 ≤ _), (by decide : 0 + 6 + 0 + 6 + 0 + 0 + 0 ≤ _)⟩)
  dsimp only [Pt.U, Pt.locs, Pt.cells, Pt.slots] at X20 l20 y20 z20 st20 hQ20
  subst l20 y20 z20
  obtain ⟨rfl, N20q, e20⟩ := hQ20
  have N20 := Fr.app N16 N20q
  refine own_go (fun tgt cont => st20.trans cont) ?_
  show own_Go p e below s (Q0 n0) room_1.cells room_1.slots (T20.setTop (mkF m 72 #[.val (.long p1), .second, .val (.int p2), .val (.int p3), .val (.int p4), .val (.long v1), .second, .val (.int v2), .val (.int v3), .val (.ref b4), .val (.ref b10), .val (.long r19), .second, .unset, .unset, .unset, .unset] [(.long (own_bw_r r19 v1 w6))]))
  generalize hr22 : (own_bw_r r19 v1 w6) = r22
  refine own_go (B := T20.setTop (mkF m 84 #[.val (.long p1), .second, .val (.int p2), .val (.int p3), .val (.int p4), .val (.long v1), .second, .val (.int v2), .val (.int v3), .val (.ref b4), .val (.ref b10), .val (.long r19), .second, .val (.long r22), .second, .unset, .unset] [(.int (0 : Int32)), (.long ((r19 + v1) - (1 : Int64))), (.ref b10)])) (fun tgt cont => ?_) ?_
  · refine XS.lstore X20.here hx rfl (hb hby at_72) rfl (l' := #[.val (.long p1), .second, .val (.int p2), .val (.int p3), .val (.int p4), .val (.long v1), .second, .val (.int v2), .val (.int v3), .val (.ref b4), .val (.ref b10), .val (.long r19), .second, .val (.long r22), .second, .unset, .unset]) rfl ?_
    refine XS.aload X20.here hx rfl (hb hby at_74) rfl rfl ?_
    refine XS.lload X20.here hx rfl (hb hby at_76) rfl ?_
    refine XS.lload X20.here hx rfl (hb hby at_78) rfl ?_
    refine XS.ladd X20.here hx rfl (hb hby at_80) rfl ?_
    refine XT.lconstV X20.here hx rfl (1 : Int64) (hb hby at_81) rfl ?_
    refine XS.lsub X20.here hx rfl (hb hby at_82) rfl ?_
    refine XT.iconstV X20.here hx rfl (0 : Int32) (hb hby at_83) rfl ?_
    exact cont
  -- pc 84: CommitSchedule.nextCommit
  obtain ⟨cq23, kq23, qa23, qb23, qc23⟩ := isOf hZ e20 ex11_0
  obtain ⟨_, _, ⟨T23, L23, k23, n23⟩, -, X23, ⟨Lc23, hQ23, l23, y23, z23⟩, st23⟩ := X20.virtualBack hx (y := (⟨"com/example/keyfold/keyfold/CommitSchedule", "nextCommit", "(JI)J"⟩ : MethodName)) (z := (⟨"com/example/keyfold/keyfold/CommitSchedule", "nextCommit", "(JI)J"⟩ : MethodName)) hown (mvT hZ (hw _ (List.mem_of_getElem? (i := 38) rfl))) (mvT hZ (hw _ (List.mem_of_getElem? (i := 39) rfl))) (notFace_of_selects (args := #[]) (mvT hZ (hw _ (List.mem_of_getElem? (i := 41) rfl)))) (mvT hZ (hw _ (List.mem_of_getElem? (i := 41) rfl))) (mvT hZ (hw _ (List.mem_of_getElem? (i := 40) rfl))) (by decide) (backOf (W := 0) (rm6 l Z a0 hw [] b10 ((r19 + v1) - (1 : Int64)) (0 : Int32) v1 w12 w14 w15 T11.heap n0 zp11 ex11_0 fa11_0 fa11_1 fa11_4 fa11_5 (by subst hv1; exact own_eq0 p2 )) hZ (hw _ (List.mem_of_getElem? (i := 42) rfl)) (hw _ (List.mem_of_getElem? (i := 3) rfl)) (by decide) (by decide)) qa23 qc23 (g := (mkF m 84 #[.val (.long p1), .second, .val (.int p2), .val (.int p3), .val (.int p4), .val (.long v1), .second, .val (.int v2), .val (.int v3), .val (.ref b4), .val (.ref b10), .val (.long r19), .second, .val (.long r22), .second, .unset, .unset] [(.int (0 : Int32)), (.long ((r19 + v1) - (1 : Int64))), (.ref b10)])) rfl (by rw [hml]; rfl) (Steps.refl _) (argsL := [(.long ((r19 + v1) - (1 : Int64))), (.int (0 : Int32))]) (rest := []) (lenOf own_pd3 rfl) rfl (by show 2 * 0 + _ ≤ _; exact Nat.le_of_eq rfl) (hb hby at_84) (fun _ _ => ⟨rfl, e20, (by decide : 0 + 1 + 0 + 1 + 0 + 0 + 0 + 0 ≤ _), (by decide : 0 + 6 + 0 + 6 + 0 + 0 + 0 + 0 ≤ _)⟩)
  dsimp only [Pt.U, Pt.locs, Pt.cells, Pt.slots] at X23 l23 y23 z23 st23 hQ23
  subst l23 y23 z23
  obtain ⟨rfl, N23q, e23⟩ := hQ23
  have N23 := Fr.app N20 N23q
  refine own_go (fun tgt cont => st23.trans cont) ?_
  show own_Go p e below s (Q0 n0) room_1.cells room_1.slots (T23.setTop (mkF m 87 #[.val (.long p1), .second, .val (.int p2), .val (.int p3), .val (.int p4), .val (.long v1), .second, .val (.int v2), .val (.int v3), .val (.ref b4), .val (.ref b10), .val (.long r19), .second, .val (.long r22), .second, .unset, .unset] [(.long (own_nc_r ((r19 + v1) - (1 : Int64)) (0 : Int32) v1 w12 w14 w15))]))
  generalize hr24 : (own_nc_r ((r19 + v1) - (1 : Int64)) (0 : Int32) v1 w12 w14 w15) = r24
  refine own_go (B := T23.setTop (mkF m 102 #[.val (.long p1), .second, .val (.int p2), .val (.int p3), .val (.int p4), .val (.long v1), .second, .val (.int v2), .val (.int v3), .val (.ref b4), .val (.ref b10), .val (.long r19), .second, .val (.long r22), .second, .val (.long r24), .second] [(.int (1 : Int32))])) (fun tgt cont => ?_) ?_
  · refine XS.lstore X23.here hx rfl (hb hby at_87) rfl (l' := #[.val (.long p1), .second, .val (.int p2), .val (.int p3), .val (.int p4), .val (.long v1), .second, .val (.int v2), .val (.int v3), .val (.ref b4), .val (.ref b10), .val (.long r19), .second, .val (.long r22), .second, .val (.long r24), .second]) rfl ?_
    refine XS.lload X23.here hx rfl (hb hby at_89) rfl ?_
    refine XS.lload X23.here hx rfl (hb hby at_91) rfl ?_
    refine XT.lcmp X23.here hx rfl (hb hby at_93) rfl ?_
    refine XS.ifNo X23.here hx rfl (hb hby at_94) rfl (XT.ll_ne_f (by subst hr22 hr24 hr19 hw12 hw14 hw15 hw6; exact own_eq2 p1 v1 (by subst hv1; exact own_eq1 p2 ))) ?_
    refine XT.iconstV X23.here hx rfl (1 : Int32) (hb hby at_97) rfl ?_
    refine XS.goto X23.here hx rfl (pc0 := 98) (pc' := 102) rfl (hb hby at_98) (by decide) (by decide) ?_
    exact cont
  refine own_end X23 (v := some (.int (1 : Int32))) (fun h => by rw [Bd.returns] at h; cases h) hlk ?_ (by decide) (by decide) (fun fs hl => retN X23 hx (t := .boolean) Bd.returns (by simp) (hb hby at_102) hl)
  exact ⟨rfl, N23⟩
set_option maxRecDepth 65536 in
set_option maxHeartbeats 40000000 in
theorem comes_1 {Post : Tables → Env → Array Value → State → Outcome → State → Prop} (hpost : ∀ tb e args s v u, (limb_1_1.after args s (.returned v) u = true ∧ limb_1_2.after args s (.returned v) u = true ∧ True) → FrameEnd s (.returned v) u (Jvm.fieldLocs frame_1_writes args s ++ Jvm.arrayLocs frame_1_arrays args s ++ Jvm.staticLocs frame_1_statics s) 16 128 → Post tb e args s (.returned v) u) :
    ArmFor flags0 classFile x code maxLocals ret World_1 tables_1 room_1 Calls_1 rest_1 Pre_1 Post := by
  intro l hfl _ _ p e ha hc hk s m args below hf hA hF happ hP
  obtain ⟨hcalls, hrest, hpre⟩ := hP
  obtain ⟨-, -, -, hnamed, -, -, -, hat⟩ := (Spec.applies_iff hf).mp happ
  obtain ⟨hg, hn⟩ := and_e (Cond.before_iff.mp (show (Jvm.Cond.and given_1 narrow_1).before args s = true from hpre))
  obtain ⟨g0, gr0⟩ := and_e hg
  obtain ⟨ga0, gr1⟩ := and_e gr0
  obtain ⟨ga1, gr2⟩ := and_e gr1
  obtain ⟨ga2, gr3⟩ := and_e gr2
  obtain ⟨w0, w1, w2, w3, rfl⟩ : ∃ w0 w1 w2 w3 : Value, args = #[w0, w1, w2, w3] := by
    have hs : args.size = 4 := by simpa [Cond.value, given_1] using g0
    obtain ⟨L⟩ := args
    match L, hs with
    | [w0, w1, w2, w3], _ => exact ⟨w0, w1, w2, w3, rfl⟩
  have hw := fun d (hd : d ∈ tables_1) => atoms_spec (ws := Jvm.Cond.code x code maxLocals ret :: tables_1) hat d (List.mem_cons_of_mem _ hd)
  obtain ⟨i0, ei0⟩ := isL_v ga0
  obtain rfl : w0 = (.long i0) := Option.some.inj ei0
  obtain ⟨i1, ei1⟩ := is_v ga1
  obtain rfl : w1 = (.int i1) := Option.some.inj ei1
  obtain ⟨i2, ei2⟩ := is_v ga2
  obtain rfl : w2 = (.int i2) := Option.some.inj ei2
  obtain ⟨i3, ei3⟩ := is_v gr3
  obtain rfl : w3 = (.int i3) := Option.some.inj ei3
  obtain ⟨n, o, h1, h2, h3, _, L, rfl, ⟨rfl, N⟩, hq⟩ := rm0 l s _ hw tables_1 i0 i1 i2 i3 s.heap s.heap.size (Nat.le_refl _) p e ha hc hk s m _ below hf ((Spec.applies_iff_loose hf).mp happ).1 ⟨rfl, State.Warmed39.refl s, rfl⟩ trivial
  refine ⟨n, _, h1, h2, h3, hpost _ _ _ _ _ _ ⟨Cond.after_iff.mpr rfl, Cond.after_iff.mpr (eq_i res_at (Term.int_eval (1)) rfl), trivial⟩ ⟨hq.1, hq.2.1, (hq.2.2.sift fun y hy => Or.inr (N y hy)).mono (by decide) (by decide)⟩⟩
theorem main_1_1 : Claimed_1_1 := comes_1 fun _ _ _ _ _ _ h hF => ⟨h.1, hF⟩
theorem main_1_2 : Claimed_1_2 := comes_1 fun _ _ _ _ _ _ h hF => ⟨h.2.1, hF⟩
end Jvm.Pilot.@@N@@
namespace Jvm.Pilot.@@N@@
open Jvm Jvm.ClassFile Sem Op Lib Jvm.Free Jvm.Stand Jvm.Pilot.@@N@@.Jvm.D
/-! MADE BY PROGRAM (witnessworld.py) out of the Statement's table words and the real class files: 10 classes; the members and pool entries that the words name. The judged class is class 1, her method 1. -/
namespace start1
open Jvm.ClassFile
def u (s : String) : CpInfo := .utf8 (stringToUtf16 s)
/-- a pool by its gaps: so many unusable entries, then the entry; so many at the end -/
def gap : Nat → List CpInfo → List CpInfo
  | 0, r => r
  | n + 1, r => .unusable :: gap n r
def poolList (es : List (Nat × CpInfo)) (last : Nat) : List CpInfo := es.foldr (fun e r => gap e.1 (e.2 :: r)) (gap last [])
def pool (es : List (Nat × CpInfo)) (last : Nat) : Array CpInfo := ⟨poolList es last⟩
def fileOf (pool : Array CpInfo) (this : Nat) (attrs : Array Attribute := #[]) (ms : Array MethodInfo := #[]) (fl : Nat := 33) (sup : Nat := 0) (ifs : Array Nat := #[]) (fds : Array FieldInfo := #[]) : ClassFile where
  minorVersion := 0
  majorVersion := 65
  constantPool := pool
  accessFlags := fl
  thisClass := this
  superClass := sup
  interfaces := ifs
  fields := fds
  methods := ms
  attributes := attrs
def plain (name : String) (sup : Option ClassId) : Class where
  name := name
  kind := .ordinary
  loader := none
  accessFlags := 33
  super := sup
  interfaces := #[]
  cf := none
  fields := #[]
  methods := #[]
  instanceTypes := #[]
  staticTypes := #[]
  resolved := #[]
  callSites := []
  init := .initialized
  statics := none
  mirror := none

def pool0 : Array CpInfo := pool [(5, u "<init>"), (0, u "()V"), (1, .class_ 10), (1, u "java/lang/Object")] 113

def k0c0 : Code := { maxStack := 0, maxLocals := 1, code := object_method_1_code, exceptionTable := #[], attributes := #[] }
def k0m0 : Method := { name := "<init>", desc := "()V", sig := { parameters := [], returnType := none }, accessFlags := 1, code := some k0c0 }
/-- java/lang/Object -/
def k0 : Class := { plain "java/lang/Object" none with
  accessFlags := 33
  interfaces := #[]
  cf := some (fileOf pool0 8 #[] #[{ accessFlags := 1, nameIndex := 5, descriptorIndex := 6, attributes := #[] }] 33 0 #[] #[])
  fields := #[]
  methods := #[k0m0]
  instanceTypes := #[]
  staticTypes := #[]
  resolved := Array.replicate 124 none
  statics := none }

def pool1 : Array CpInfo := pool [(2, .class_ 4), (1, u "java/lang/Object"), (0, u "<init>"), (0, u "()V"), (0, .integer 2147483647), (0, .class_ 9), (0, u "com/example/keyfold/keyfold/CommitSchedule"), (0, .methodref 8 11), (0, .nameAndType 5 12), (0, u "(JII)V"), (0, .methodref 8 14), (0, .nameAndType 15 16), (0, u "intervalStart"), (0, u "(J)J"), (0, .methodref 8 18), (0, .nameAndType 19 16), (0, u "backlogWaitEnd"), (0, .methodref 8 21), (0, .nameAndType 22 23), (0, u "nextCommit"), (0, u "(JI)J"), (0, .class_ 25), (0, u "com/example/keyfold/keyfold/CommitScheduleBacklogWaitEndPinLaw"), (2, u "law"), (0, u "(JIII)Z")] 3

def k1m0 : Method := { name := "<init>", desc := "()V", sig := { parameters := [], returnType := none }, accessFlags := 1, code := none }
def k1c1 : Code := { maxStack := 6, maxLocals := 17, code := code, exceptionTable := #[], attributes := #[] }
def k1m1 : Method := { name := "law", desc := "(JIII)Z", sig := { parameters := [.long, .int, .int, .int], returnType := some .boolean }, accessFlags := 9, code := some k1c1 }
/-- com/example/keyfold/keyfold/CommitScheduleBacklogWaitEndPinLaw -/
def k1 : Class := { plain "com/example/keyfold/keyfold/CommitScheduleBacklogWaitEndPinLaw" (some 0) with
  accessFlags := 49
  interfaces := #[]
  cf := some (fileOf pool1 24 #[] #[{ accessFlags := 1, nameIndex := 5, descriptorIndex := 6, attributes := #[] }, { accessFlags := 9, nameIndex := 28, descriptorIndex := 29, attributes := #[] }] 49 2 #[] #[])
  fields := #[]
  methods := #[k1m0, k1m1]
  instanceTypes := #[]
  staticTypes := #[]
  resolved := Array.replicate 33 none
  statics := none }

def pool2 : Array CpInfo := pool [(1, .methodref 2 3), (0, .class_ 4), (0, .nameAndType 5 6), (0, u "java/lang/Object"), (0, u "<init>"), (0, u "()V"), (0, .fieldref 8 9), (0, .class_ 10), (0, .nameAndType 11 12), (0, u "com/example/keyfold/keyfold/CommitSchedule"), (0, u "intervalMs"), (0, u "J"), (0, .long 4), (1, .fieldref 8 16), (0, .nameAndType 17 12), (0, u "quarterMs"), (0, .fieldref 8 19), (0, .nameAndType 20 21), (0, u "committers"), (0, u "I"), (0, .fieldref 8 23), (0, .nameAndType 24 25), (0, u "oneTask"), (0, u "Z"), (0, .fieldref 8 27), (0, .nameAndType 28 12), (0, u "firstCommitMs"), (0, .long 2), (1, .fieldref 8 32), (0, .nameAndType 33 12), (0, u "standInStepMs"), (0, .methodref 35 36), (0, .class_ 37), (0, .nameAndType 38 39), (0, u "java/lang/Math"), (0, u "floorMod"), (0, u "(JJ)J"), (0, .methodref 8 41), (0, .nameAndType 42 43), (0, u "intervalStart"), (0, u "(J)J"), (0, .methodref 8 45), (0, .nameAndType 46 39), (0, u "nextAt"), (41, u "nextCommit"), (0, u "(JI)J"), (0, u "(JII)V"), (6, u "backlogWaitEnd")] 30

def k2c0 : Code := { maxStack := 7, maxLocals := 5, code := prog_1_method_1_code, exceptionTable := #[], attributes := #[] }
def k2m0 : Method := { name := "<init>", desc := "(JII)V", sig := { parameters := [.long, .int, .int], returnType := none }, accessFlags := 0, code := some k2c0 }
def k2c1 : Code := { maxStack := 6, maxLocals := 3, code := prog_1_method_2_code, exceptionTable := #[], attributes := #[] }
def k2m1 : Method := { name := "intervalStart", desc := "(J)J", sig := { parameters := [.long], returnType := some .long }, accessFlags := 0, code := some k2c1 }
def k2c2 : Code := { maxStack := 4, maxLocals := 3, code := prog_1_method_6_code, exceptionTable := #[], attributes := #[] }
def k2m2 : Method := { name := "backlogWaitEnd", desc := "(J)J", sig := { parameters := [.long], returnType := some .long }, accessFlags := 0, code := some k2c2 }
def k2c3 : Code := { maxStack := 9, maxLocals := 4, code := prog_1_method_13_code, exceptionTable := #[], attributes := #[] }
def k2m3 : Method := { name := "nextCommit", desc := "(JI)J", sig := { parameters := [.long, .int], returnType := some .long }, accessFlags := 0, code := some k2c3 }
def k2c4 : Code := { maxStack := 4, maxLocals := 7, code := prog_1_method_15_code, exceptionTable := #[], attributes := #[] }
def k2m4 : Method := { name := "nextAt", desc := "(JJ)J", sig := { parameters := [.long, .long], returnType := some .long }, accessFlags := 2, code := some k2c4 }
/-- com/example/keyfold/keyfold/CommitSchedule -/
def k2 : Class := { plain "com/example/keyfold/keyfold/CommitSchedule" (some 0) with
  accessFlags := 48
  interfaces := #[]
  cf := some (fileOf pool2 8 #[] #[{ accessFlags := 0, nameIndex := 5, descriptorIndex := 90, attributes := #[] }, { accessFlags := 0, nameIndex := 42, descriptorIndex := 43, attributes := #[] }, { accessFlags := 0, nameIndex := 97, descriptorIndex := 43, attributes := #[] }, { accessFlags := 0, nameIndex := 88, descriptorIndex := 89, attributes := #[] }, { accessFlags := 2, nameIndex := 46, descriptorIndex := 39, attributes := #[] }] 48 2 #[] #[{ accessFlags := 18, nameIndex := 11, descriptorIndex := 12, attributes := #[] }, { accessFlags := 18, nameIndex := 17, descriptorIndex := 12, attributes := #[] }, { accessFlags := 18, nameIndex := 20, descriptorIndex := 21, attributes := #[] }, { accessFlags := 18, nameIndex := 24, descriptorIndex := 25, attributes := #[] }, { accessFlags := 18, nameIndex := 28, descriptorIndex := 12, attributes := #[] }, { accessFlags := 18, nameIndex := 33, descriptorIndex := 12, attributes := #[] }])
  fields := #[{ name := "intervalMs", type := .long, accessFlags := 18, slot := 0, constantValue := 0 }, { name := "quarterMs", type := .long, accessFlags := 18, slot := 1, constantValue := 0 }, { name := "committers", type := .int, accessFlags := 18, slot := 2, constantValue := 0 }, { name := "oneTask", type := .boolean, accessFlags := 18, slot := 3, constantValue := 0 }, { name := "firstCommitMs", type := .long, accessFlags := 18, slot := 4, constantValue := 0 }, { name := "standInStepMs", type := .long, accessFlags := 18, slot := 5, constantValue := 0 }]
  methods := #[k2m0, k2m1, k2m2, k2m3, k2m4]
  instanceTypes := #[.long, .long, .int, .boolean, .long, .long]
  staticTypes := #[]
  resolved := Array.replicate 128 none
  statics := none }

def pool3 : Array CpInfo := pool [(1, .class_ 2), (0, u "java/lang/Math"), (1, .class_ 6), (1, u "java/lang/Object"), (0, u "<init>"), (0, u "()V"), (89, .class_ 100), (1, u "java/lang/Math$RandomNumberGeneratorHolder"), (20, u "(JJ)J"), (26, u "floorMod"), (23, u "negativeZeroFloatBits"), (0, u "J"), (2, u "negativeZeroDoubleBits"), (68, u "$assertionsDisabled"), (0, u "Z"), (91, u "twoToTheDoubleScaleDown"), (0, u "D"), (4, u "twoToTheDoubleScaleUp"), (9, u "E"), (3, u "PI"), (2, u "TAU"), (2, u "DEGREES_TO_RADIANS"), (0, u "RADIANS_TO_DEGREES")] 94

def k3m0 : Method := { name := "<init>", desc := "()V", sig := { parameters := [], returnType := none }, accessFlags := 2, code := none }
def k3c1 : Code := { maxStack := 4, maxLocals := 6, code := jdk_29_method_52_code, exceptionTable := #[], attributes := #[] }
def k3m1 : Method := { name := "floorMod", desc := "(JJ)J", sig := { parameters := [.long, .long], returnType := some .long }, accessFlags := 9, code := some k3c1 }
/-- java/lang/Math -/
def k3 : Class := { plain "java/lang/Math" (some 0) with
  accessFlags := 49
  interfaces := #[]
  cf := some (fileOf pool3 1 #[.nestMembers #[98]] #[{ accessFlags := 2, nameIndex := 7, descriptorIndex := 8, attributes := #[] }, { accessFlags := 9, nameIndex := 148, descriptorIndex := 121, attributes := #[] }] 49 4 #[] #[{ accessFlags := 25, nameIndex := 354, descriptorIndex := 339, attributes := #[] }, { accessFlags := 25, nameIndex := 358, descriptorIndex := 339, attributes := #[] }, { accessFlags := 25, nameIndex := 361, descriptorIndex := 339, attributes := #[] }, { accessFlags := 26, nameIndex := 364, descriptorIndex := 339, attributes := #[] }, { accessFlags := 26, nameIndex := 365, descriptorIndex := 339, attributes := #[] }, { accessFlags := 26, nameIndex := 172, descriptorIndex := 173, attributes := #[] }, { accessFlags := 26, nameIndex := 176, descriptorIndex := 173, attributes := #[] }, { accessFlags := 8, nameIndex := 344, descriptorIndex := 339, attributes := #[] }, { accessFlags := 8, nameIndex := 338, descriptorIndex := 339, attributes := #[] }, { accessFlags := 4120, nameIndex := 245, descriptorIndex := 246, attributes := #[] }])
  fields := #[{ name := "E", type := .double, accessFlags := 25, slot := 0, constantValue := 0 }, { name := "PI", type := .double, accessFlags := 25, slot := 1, constantValue := 0 }, { name := "TAU", type := .double, accessFlags := 25, slot := 2, constantValue := 0 }, { name := "DEGREES_TO_RADIANS", type := .double, accessFlags := 26, slot := 3, constantValue := 0 }, { name := "RADIANS_TO_DEGREES", type := .double, accessFlags := 26, slot := 4, constantValue := 0 }, { name := "negativeZeroFloatBits", type := .long, accessFlags := 26, slot := 5, constantValue := 0 }, { name := "negativeZeroDoubleBits", type := .long, accessFlags := 26, slot := 6, constantValue := 0 }, { name := "twoToTheDoubleScaleUp", type := .double, accessFlags := 8, slot := 7, constantValue := 0 }, { name := "twoToTheDoubleScaleDown", type := .double, accessFlags := 8, slot := 8, constantValue := 0 }, { name := "$assertionsDisabled", type := .boolean, accessFlags := 4120, slot := 9, constantValue := 0 }]
  methods := #[k3m0, k3m1]
  instanceTypes := #[]
  staticTypes := #[.double, .double, .double, .double, .double, .long, .long, .double, .double, .boolean]
  resolved := Array.replicate 460 none
  statics := none }

def pool4 : Array CpInfo := pool [(1, u "java/lang/Cloneable"), (0, .class_ 1), (0, u "java/lang/Object"), (0, .class_ 3)] 3

/-- java/lang/Cloneable -/
def k4 : Class := { plain "java/lang/Cloneable" (some 0) with
  accessFlags := 1537
  interfaces := #[]
  cf := some (fileOf pool4 2 #[] #[] 1537 4 #[] #[])
  fields := #[]
  methods := #[]
  instanceTypes := #[]
  staticTypes := #[]
  resolved := Array.replicate 8 none
  statics := none }

def pool5 : Array CpInfo := pool [(1, u "java/io/Serializable"), (0, .class_ 1), (0, u "java/lang/Object"), (0, .class_ 3)] 3

/-- java/io/Serializable -/
def k5 : Class := { plain "java/io/Serializable" (some 0) with
  accessFlags := 1537
  interfaces := #[]
  cf := some (fileOf pool5 2 #[] #[] 1537 4 #[] #[])
  fields := #[]
  methods := #[]
  instanceTypes := #[]
  staticTypes := #[]
  resolved := Array.replicate 8 none
  statics := none }

/-- the primitive byte -/
def k6 : Class := { plain "byte" none with kind := .primitive 'B', accessFlags := 0x411 }
/-- [B -/
def k7 : Class := { plain "[B" (some 0) with kind := .array 6 .byte, interfaces := #[4, 5], accessFlags := 1041 }

/-- the primitive int -/
def k8 : Class := { plain "int" none with kind := .primitive 'I', accessFlags := 0x411 }
/-- [I -/
def k9 : Class := { plain "[I" (some 0) with kind := .array 8 .int, interfaces := #[4, 5], accessFlags := 1041 }

def heap : Heap := #[]
def classes : Array Class := #[k0, k1, k2, k3, k4, k5, k6, k7, k8, k9]
def interned : List (Array UInt16 × Addr) := []
def slotsUsed : Nat := 0
def theMethod : MethodId := ⟨1, 1⟩
def args0 : Array Value := #[.long 5, .int 300, .int 7, .int 8]
def aboutOver (below : List Frame) : State where
  vm := { classes := classes, interned := interned.toArray }
  heap := heap
  slotsUsed := slotsUsed
  threads := #[{ frames := .invoking theMethod args0 :: below }]
def below0 : List Frame := [.native { method := ⟨0, 0⟩, args := #[] }]
def about1 : State := aboutOver below0
def p0 : Program := .bare "" "" ""
def e0 : Env := launch0.env 0 0 0
theorem w_frames : about1.frames = Frame.invoking theMethod args0 :: below0 := rfl
set_option maxRecDepth 65536 in
theorem w_args : argsFit about1.vm theMethod args0 = true := by decide +kernel
set_option maxRecDepth 65536 in
theorem w_heap : heapFits about1 = true := by decide +kernel
set_option maxRecDepth 65536 in
theorem w_runnable : about1.curStatus? = some .runnable := by decide +kernel
set_option maxRecDepth 65536 in
theorem w_alone : about1.alone = true := by decide +kernel
set_option maxRecDepth 65536 in
theorem w_named : about1.methodNamed? x = some theMethod := by decide +kernel
set_option maxRecDepth 65536 in
theorem w_hears : about1.hears theMethod below0 = true := by decide +kernel
set_option maxRecDepth 65536 in
theorem w_ripe : about1.ripe theMethod args0 below0 = true := by decide +kernel
theorem w_running : about1.status = .running := rfl
set_option maxRecDepth 65536 in
theorem w_room : about1.hasRoom e0.platform room_1 = true :=
  launch0.hasRoom_least _ room_1 (by decide +kernel) (by decide +kernel) (by decide +kernel) (by decide +kernel) (by decide +kernel) (by decide +kernel)
theorem allAtoms_all (ts : List Jvm.Cond) (a : Array Jvm.Value) (st : Jvm.State) : (allAtoms ts).before a st = ts.all (fun c => c.before a st) := by
  induction ts with
  | nil => rfl
  | cons c t ih =>
    show (Jvm.Cond.and c (allAtoms t)).before a st = _
    rw [Jvm.Cond.before_and, ih, List.all_cons]
def words1 : List Jvm.Cond := Jvm.Cond.code x code maxLocals ret :: tables_1
/-- a 'code' word, met by the world's own term for the bytes: nothing is compared byte by byte -/
theorem code_word {y : MethodName} {bytes : ByteArray} {mx : Nat} {rt : Option FieldType} {a : Array Value} {s : State} {m : MethodId} {meth : Method} {c : Code} (h1 : s.methodNamed? y = some m) (h2 : s.vm.method? m = some meth) (h3 : meth.code = some c) (h4 : c.code = bytes)
    (h5 : (c.maxLocals == mx && c.exceptionTable.isEmpty && decide (c.maxStack ≤ mostOperands) && decide (meth.sig.returnType = rt) && !meth.locks && decide (parseMethodDescriptor y.desc = some meth.sig)) = true) : (Jvm.Cond.code y bytes mx rt).before a s = true := by
  simp only [Bool.and_eq_true, beq_iff_eq, Bool.not_eq_true', decide_eq_true_eq] at h5
  obtain ⟨⟨⟨⟨⟨g1, g2⟩, g3⟩, g4⟩, g5⟩, g6⟩ := h5
  simp [Cond.before, Cond.holds, Cond.value, h1, h2, h3, h4, g1, g2, g3, g4, g5, g6]
def isCode : Jvm.Cond → Bool
  | .code _ _ _ _ => true
  | _ => false
theorem all_split {L : List Jvm.Cond} {P : Jvm.Cond → Bool} (h1 : L.all (fun c => isCode c || P c) = true) (h2 : ∀ c ∈ L.filter isCode, P c = true) : L.all P = true := by
  refine List.all_eq_true.mpr fun c hc => ?_
  have h := List.all_eq_true.mp h1 c hc
  rcases Bool.eq_false_or_eq_true (isCode c) with hi | hi
  · exact h2 c (List.mem_filter.mpr ⟨hc, hi⟩)
  · simpa [hi] using h
set_option maxRecDepth 65536 in
theorem w_c0 : (Jvm.Cond.code x code maxLocals ret).before args0 about1 = true := code_word (m := ⟨1, 1⟩) (meth := k1m1) (c := k1c1) (by decide +kernel) rfl rfl rfl (by decide +kernel)
set_option maxRecDepth 65536 in
theorem w_c1 : (Jvm.Cond.code ({ cls := "com/example/keyfold/keyfold/CommitSchedule", name := "<init>", desc := "(JII)V" } : Jvm.MethodName) prog_1_method_1_code (5 : Nat) (Option.none : Option Jvm.ClassFile.FieldType)).before args0 about1 = true := code_word (m := ⟨2, 0⟩) (meth := k2m0) (c := k2c0) (by decide +kernel) rfl rfl rfl (by decide +kernel)
set_option maxRecDepth 65536 in
theorem w_c2 : (Jvm.Cond.code ({ cls := "java/lang/Object", name := "<init>", desc := "()V" } : Jvm.MethodName) object_method_1_code (1 : Nat) (Option.none : Option Jvm.ClassFile.FieldType)).before args0 about1 = true := code_word (m := ⟨0, 0⟩) (meth := k0m0) (c := k0c0) (by decide +kernel) rfl rfl rfl (by decide +kernel)
set_option maxRecDepth 65536 in
theorem w_c3 : (Jvm.Cond.code ({ cls := "com/example/keyfold/keyfold/CommitSchedule", name := "intervalStart", desc := "(J)J" } : Jvm.MethodName) prog_1_method_2_code (3 : Nat) (Option.some Jvm.ClassFile.FieldType.long)).before args0 about1 = true := code_word (m := ⟨2, 1⟩) (meth := k2m1) (c := k2c1) (by decide +kernel) rfl rfl rfl (by decide +kernel)
set_option maxRecDepth 65536 in
theorem w_c4 : (Jvm.Cond.code ({ cls := "java/lang/Math", name := "floorMod", desc := "(JJ)J" } : Jvm.MethodName) jdk_29_method_52_code (6 : Nat) (Option.some Jvm.ClassFile.FieldType.long)).before args0 about1 = true := code_word (m := ⟨3, 1⟩) (meth := k3m1) (c := k3c1) (by decide +kernel) rfl rfl rfl (by decide +kernel)
set_option maxRecDepth 65536 in
theorem w_c5 : (Jvm.Cond.code ({ cls := "com/example/keyfold/keyfold/CommitSchedule", name := "backlogWaitEnd", desc := "(J)J" } : Jvm.MethodName) prog_1_method_6_code (3 : Nat) (Option.some Jvm.ClassFile.FieldType.long)).before args0 about1 = true := code_word (m := ⟨2, 2⟩) (meth := k2m2) (c := k2c2) (by decide +kernel) rfl rfl rfl (by decide +kernel)
set_option maxRecDepth 65536 in
theorem w_c6 : (Jvm.Cond.code ({ cls := "com/example/keyfold/keyfold/CommitSchedule", name := "nextCommit", desc := "(JI)J" } : Jvm.MethodName) prog_1_method_13_code (4 : Nat) (Option.some Jvm.ClassFile.FieldType.long)).before args0 about1 = true := code_word (m := ⟨2, 3⟩) (meth := k2m3) (c := k2c3) (by decide +kernel) rfl rfl rfl (by decide +kernel)
set_option maxRecDepth 65536 in
theorem w_c7 : (Jvm.Cond.code ({ cls := "com/example/keyfold/keyfold/CommitSchedule", name := "nextAt", desc := "(JJ)J" } : Jvm.MethodName) prog_1_method_15_code (7 : Nat) (Option.some Jvm.ClassFile.FieldType.long)).before args0 about1 = true := code_word (m := ⟨2, 4⟩) (meth := k2m4) (c := k2c4) (by decide +kernel) rfl rfl rfl (by decide +kernel)
def codes1 : List Jvm.Cond := [Jvm.Cond.code x code maxLocals ret, Jvm.Cond.code ({ cls := "com/example/keyfold/keyfold/CommitSchedule", name := "<init>", desc := "(JII)V" } : Jvm.MethodName) prog_1_method_1_code (5 : Nat) (Option.none : Option Jvm.ClassFile.FieldType), Jvm.Cond.code ({ cls := "java/lang/Object", name := "<init>", desc := "()V" } : Jvm.MethodName) object_method_1_code (1 : Nat) (Option.none : Option Jvm.ClassFile.FieldType), Jvm.Cond.code ({ cls := "com/example/keyfold/keyfold/CommitSchedule", name := "intervalStart", desc := "(J)J" } : Jvm.MethodName) prog_1_method_2_code (3 : Nat) (Option.some Jvm.ClassFile.FieldType.long), Jvm.Cond.code ({ cls := "java/lang/Math", name := "floorMod", desc := "(JJ)J" } : Jvm.MethodName) jdk_29_method_52_code (6 : Nat) (Option.some Jvm.ClassFile.FieldType.long), Jvm.Cond.code ({ cls := "com/example/keyfold/keyfold/CommitSchedule", name := "backlogWaitEnd", desc := "(J)J" } : Jvm.MethodName) prog_1_method_6_code (3 : Nat) (Option.some Jvm.ClassFile.FieldType.long), Jvm.Cond.code ({ cls := "com/example/keyfold/keyfold/CommitSchedule", name := "nextCommit", desc := "(JI)J" } : Jvm.MethodName) prog_1_method_13_code (4 : Nat) (Option.some Jvm.ClassFile.FieldType.long), Jvm.Cond.code ({ cls := "com/example/keyfold/keyfold/CommitSchedule", name := "nextAt", desc := "(JJ)J" } : Jvm.MethodName) prog_1_method_15_code (7 : Nat) (Option.some Jvm.ClassFile.FieldType.long)]
set_option maxRecDepth 65536 in
theorem codes_eq : words1.filter isCode = codes1 := rfl
theorem w_codes : ∀ c ∈ words1.filter isCode, c.before args0 about1 = true := by
  rw [codes_eq]
  intro c hc
  simp only [codes1, List.mem_cons, List.not_mem_nil, or_false] at hc
  rcases hc with rfl | rfl | rfl | rfl | rfl | rfl | rfl | rfl
  · exact w_c0
  · exact w_c1
  · exact w_c2
  · exact w_c3
  · exact w_c4
  · exact w_c5
  · exact w_c6
  · exact w_c7
set_option maxRecDepth 65536 in
theorem w_t1 : (words1.take 24).all (fun c => isCode c || c.before args0 about1) = true := by decide +kernel
set_option maxRecDepth 65536 in
theorem w_t2 : ((words1.drop 24).take 24).all (fun c => isCode c || c.before args0 about1) = true := by decide +kernel
set_option maxRecDepth 65536 in
theorem w_t3 : ((words1.drop 24).drop 24).all (fun c => isCode c || c.before args0 about1) = true := by decide +kernel
theorem w_tables : (allAtoms (Jvm.Cond.code x code maxLocals ret :: tables_1)).before args0 about1 = true := by
  rw [allAtoms_all]
  show words1.all (fun c => c.before args0 about1) = true
  refine all_split ?_ w_codes
  rw [← List.take_append_drop 24 words1, List.all_append, w_t1, ← List.take_append_drop 24 (words1.drop 24), List.all_append, w_t2, w_t3]
  rfl
set_option maxRecDepth 65536 in
theorem w_case : (Jvm.Cond.and given_1 narrow_1).before args0 about1 = true := by decide +kernel
theorem w_applies : (headSpec (Jvm.Cond.code x code maxLocals ret :: tables_1) room_1).applies x e0.platform about1 = true :=
  (Spec.applies_iff w_frames).mpr ⟨w_running, w_runnable, w_alone, w_named, w_hears, w_ripe, w_room, w_tables⟩
theorem atStart : AtStart classFile x code maxLocals ret World_1 tables_1 room_1 Calls_1 rest_1 Pre_1 launch0 p0 e0 about1 theMethod args0 below0 :=
  ⟨lists_1, trivial, launch0.admits_env _ _ _, launch0.least_env, fairChoices_fair.cas, fairChoices_fair.clock, w_frames, w_args, w_heap, w_applies, trivial, trivial, w_case⟩
end start1
theorem witness_1 : WitnessClaimed_1 := ⟨start1.p0, start1.e0, start1.about1, start1.theMethod, start1.args0, start1.below0, start1.atStart⟩
end Jvm.Pilot.@@N@@
