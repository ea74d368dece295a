import JvmDerived
import JvmDerived.Pilot.@@N@@Statement
import JvmDerived.Pilot.@@N@@Code
set_option linter.unusedVariables false
set_option linter.unusedSimpArgs false
namespace Jvm.RoadKit
open Sem ClassFile Op Lib Jvm.Stand Jvm.Free Jvm.LawKit
section New
variable {p : Program} {l : Launch} {e : Env} {R : Room} {s : State} {m : MethodId} {args : Array Value} {below : List Frame} {meth : Method} {c : Code} {T : State} {locs : List Loc} {cells slots : Nat}
theorem retI (X : Stand p l e R s m args below meth c T locs cells slots) (hx : p.tables.exec = Jvm.exec) {pc : Nat} {Ls : Array Slot} {z : Int32} {rest : List Value} (hret : meth.sig.returnType = some .int) (hd : decode c.code pc = .ok (.ireturn, 1)) {fs : List Frame}
    (hl : ∀ (f : JFrame) (acts : List Action), f.method = m → f.locked = none → f.entered = [] → (doReturn e (T.setTop f) acts (some (.int z))).1 = T.setFrames fs) : Steps p.tables e below (T.setTop (mkF m pc Ls (.int z :: rest))) (T.setFrames fs) := by
  have hm' : T.vm.method? m = some meth := X.method'
  have hn : narrow .int (.int z) = .int z := rfl
  show Steps p.tables e below (T.setTop { method := m, pc := pc, locals := Ls, stack := _ :: rest, locked := none }) _
  jvm_step X.here [X.here.top, hx, hd, hm', hret, hn]
  first | (intro acts; rw [hl _ acts rfl rfl rfl]) | rw [hl _ _ rfl rfl rfl]
  exact Steps.refl _
end New
end Jvm.RoadKit
namespace Jvm.Pilot.@@N@@
open Jvm Jvm.ClassFile Sem Op Lib Jvm.Free Jvm.Stand Jvm.LawKit Jvm.RoadKit Bundle Jvm.Pilot.@@N@@.Jvm.D
/-! my own layer: all goals of a walk have one shape -/
section Own
variable {p : Program} {l : Launch} {e : Env} {R : Room} {s : State} {m : MethodId} {args : Array Value} {below : List Frame} {meth : Method} {c : Code} {T : State} {locs : List Loc} {cells slots : Nat} {Q : Option Value → Heap → List Loc → Prop} {nc ns : Nat} {A B : State}
/-- from A the method comes to its end, with Q of what it returns, of the heap and of the places written -/
def own_Go (p : Program) (e : Env) (below : List Frame) (s : State) (Q : Option Value → Heap → List Loc → Prop) (nc ns : Nat) (A : State) : Prop :=
  ∃ s₂ o, Steps p.tables e below A s₂ ∧ s₂.status = .running ∧ Ended s₂ below o ∧ ∃ v L, o = .returned v ∧ Q v s₂.heap L ∧ FrameEnd s o s₂ L nc ns
theorem own_go (k : ∀ t, Steps p.tables e below B t → Steps p.tables e below A t) (h : own_Go p e below s Q nc ns B) : own_Go p e below s Q nc ns A := by
  obtain ⟨t, o, h1, h2⟩ := h
  exact ⟨t, o, k t h1, h2⟩
theorem own_end (X : Stand p l e R s m args below meth c T locs cells slots) {v : Option Value} (hv : meth.sig.returnType = none → v = none) (hlk : meth.locks = false) (hq : Q v T.heap locs) (hc : cells ≤ nc) (hs : slots ≤ ns)
    (hst : ∀ fs, (∀ (f : JFrame) (acts : List Action), f.method = m → f.locked = none → f.entered = [] → (doReturn e (T.setTop f) acts v).1 = T.setFrames fs) → Steps p.tables e below A (T.setFrames fs)) : own_Go p e below s Q nc ns A := by
  obtain ⟨fs, hr, hrun, hended, hW, hsame⟩ := X.leave (v := v) hv hlk
  exact ⟨_, _, hst fs hr, hrun, hended, v, locs, rfl, hq, ⟨_, rfl⟩, hW, hsame.mono hc hs⟩
theorem own_wide {cells' slots' : Nat} (X : Stand p l e R s m args below meth c T locs cells slots) (hc : cells ≤ cells') (hs : slots ≤ slots') : Stand p l e R s m args below meth c T locs cells' slots' :=
  { X with same := X.same.mono hc hs }
theorem own_lrem {tb : Tables} [Ours tb] {target : State} {g : JFrame} (h : At T m c below) (hx : tb.exec = Jvm.exec) (hg : g.method = m) {x y : Int64} {rest : List Value} (hd : decode c.code g.pc = .ok (.lrem, 1)) (hs : g.stack = .long y :: .long x :: rest) (hy : y ≠ 0)
    (hr : Steps tb e below (T.setTop { g with pc := g.pc + 1, stack := .long (x % y) :: rest }) target) : Steps tb e below (T.setTop g) target :=
  XS.lrem h hx hg hd hs hy (by rw [lrem_mod]; exact hr)
end Own
section Own2
variable {Z s : State} {a0 args : Array Value} {h : Heap} {a b : Addr} {C : String} {c : Cell} {ty : FieldType}
theorem own_selP {y : MethodName} {n : Nat} (hZ : Z.Warmed39 s.vm) (wi : (Jvm.Cond.instantiable y.cls n).before a0 Z = true) (w2 : (Jvm.Cond.instanceMethod y).before a0 Z = true) (w3 : (Jvm.Cond.privateMethod y).before a0 Z = true)
    (hy : y.cls ≠ "java/lang/invoke/MethodHandle" ∧ y.cls ≠ "java/lang/invoke/VarHandle" := by decide) : (Jvm.Cond.selects y.cls y y).before args s = true := by
  have wi' : (Jvm.Cond.instantiable y.cls n).before args s = true := mvT hZ wi
  obtain ⟨c, k, h1, h2, -, h4, -⟩ := Cond.instantiable_spec wi'
  have h5 : k.isInterface = false := by
    cases hk : k.isInterface
    · rfl
    · rw [hk] at h4; simp at h4
  exact selects_self_of_private h1 h2 h5 (Cond.privateMethod_at (mvP hZ w3 (args := #[]))) (mvT hZ w2) hy
theorem own_neA {n : Nat} (F : Exa Z h a C) (wi : (Jvm.Cond.instantiable C n).before a0 Z = true) (G : ∃ c, Arr Z h b c ty) : a ≠ b := by
  obtain ⟨c, G⟩ := G
  exact ne_arr F wi G
end Own2
def own_has (p1 : Int32) (p2 : Int32) : Int32 := if (((2 : Int32) * p2) - (2 : Int32)) < p1 then (1 : Int32) else (0 : Int32)
def Q_rm1 (Z : State) (p1 : Int32) (p2 : Int32) (h0 : Heap) (n0 : Nat) (v : Option Value) (h : Heap) (L : List Loc) : Prop := v = some (.int (own_has p1 p2)) ∧ Fr n0 L ∧ h = h0
theorem own_pn0 : plainName "com/example/cyclecut/cyclecut/cubic/CubicGraphs" = true := by first | (simp [plainName, overriddenIn]; done) | decide +kernel
theorem d1_0 : decode prog_5_method_3_code 0 = .ok (.iload_n 0, 1) := by decide +kernel
theorem d1_1 : decode prog_5_method_3_code 1 = .ok (.iconst 2, 1) := by decide +kernel
theorem d1_2 : decode prog_5_method_3_code 2 = .ok (.iload_n 1, 1) := by decide +kernel
theorem d1_3 : decode prog_5_method_3_code 3 = .ok (.imul, 1) := by decide +kernel
theorem d1_4 : decode prog_5_method_3_code 4 = .ok (.iconst 2, 1) := by decide +kernel
theorem d1_5 : decode prog_5_method_3_code 5 = .ok (.isub, 1) := by decide +kernel
theorem d1_6 : decode prog_5_method_3_code 6 = .ok (.if_icmp .le 7, 3) := by decide +kernel
theorem d1_9 : decode prog_5_method_3_code 9 = .ok (.iconst 1, 1) := by decide +kernel
theorem d1_10 : decode prog_5_method_3_code 10 = .ok (.goto 4, 3) := by decide +kernel
theorem d1_13 : decode prog_5_method_3_code 13 = .ok (.iconst 0, 1) := by decide +kernel
theorem d1_14 : decode prog_5_method_3_code 14 = .ok (.ireturn, 1) := by decide +kernel
set_option maxRecDepth 65536 in
set_option maxHeartbeats 40000000 in
theorem rm1 (l : Launch) (Z : State) (a0 : Array Value) (hw : ∀ d ∈ tables_1, d.before a0 Z = true) (ws : List Jvm.Cond) (p1 : Int32) (p2 : Int32) (h0 : Heap) (n0 : Nat) (Z0 : n0 ≤ h0.size)  :
    MetFree l (⟨"com/example/cyclecut/cyclecut/cubic/CubicGraphs", "hasCyclicEdgeCut", "(II)Z"⟩ : MethodName) (head1 (Jvm.Cond.code (⟨"com/example/cyclecut/cyclecut/cubic/CubicGraphs", "hasCyclicEdgeCut", "(II)Z"⟩ : MethodName) prog_5_method_3_code 2 (some .boolean) :: ws) ({ frames := 0, cells := 0, slots := 0, locals := 0 } : Room)) (fun aa U => aa = #[(.int p1), (.int p2)] ∧ Z.Warmed39 U.vm ∧ U.heap = h0) (fun _ _ _ _ _ => True) (fun _ U o U' => ∃ v L, o = .returned v ∧ Q_rm1 Z p1 p2 h0 n0 v U'.heap L ∧ FrameEnd U o U' L ({ frames := 0, cells := 0, slots := 0, locals := 0 } : Room).cells ({ frames := 0, cells := 0, slots := 0, locals := 0 } : Room).slots) := by
  refine MetFree.of_bodySF (plainFor_of_name own_pn0) hisR ?_
  intro p e s m args below meth c s₁ Bd hml0 hP hK
  obtain ⟨rfl, hZ, hh⟩ := hP
  have hx := Bd.exec
  have hby := Bd.bytes
  have hml : c.maxLocals = 2 := hml0
  have hlk : meth.locks = false := BodyLoose.notSynchronized Bd
  have hown : s.vm.findClass "com/example/cyclecut/cyclecut/cubic/CubicGraphs" = some m.cls := findClass_of_methodNamed Bd.named
  have hnm := (name_of_methodNamed Bd.named Bd.method).1
  have X0 : Stand p l e ({ frames := 0, cells := 0, slots := 0, locals := 0 } : Room) s m #[(.int p1), (.int p2)] below meth c s₁ [] 0 0 := Stand.of_body Bd
  have e0 : s₁.heap = h0 := by rw [← hh, Bd.state]; rfl
  have N0 := Fr.nil n0
  show own_Go p e below s (Q_rm1 Z p1 p2 h0 n0) 0 0 (s₁.setTop (entryFrame m #[(.int p1), (.int p2)] 2))
  refine own_go (B := s₁.setTop (mkF m 0 #[.val (.int p1), .val (.int p2)] [])) (fun tgt cont => (XT.entry rfl).trans cont) ?_
  refine own_go (B := s₁.setTop (mkF m 6 #[.val (.int p1), .val (.int p2)] [(.int (((2 : Int32) * p2) - (2 : Int32))), (.int p1)])) (fun tgt cont => ?_) ?_
  · refine XS.iloadN X0.here hx rfl (hb hby d1_0) rfl ?_
    refine XT.iconstV X0.here hx rfl (2 : Int32) (hb hby d1_1) rfl ?_
    refine XS.iloadN X0.here hx rfl (hb hby d1_2) rfl ?_
    refine XS.imul X0.here hx rfl (hb hby d1_3) rfl ?_
    refine XT.iconstV X0.here hx rfl (2 : Int32) (hb hby d1_4) rfl ?_
    refine XS.isub X0.here hx rfl (hb hby d1_5) rfl ?_
    exact cont
  by_cases hc1 : (((2 : Int32) * p2) - (2 : Int32)) < p1
  ·
    refine own_go (B := s₁.setTop (mkF m 14 #[.val (.int p1), .val (.int p2)] [(.int (1 : Int32))])) (fun tgt cont => ?_) ?_
    · refine XS.icmpNo X0.here hx rfl (hb hby d1_6) rfl (XT.ii_le_f hc1) ?_
      refine XT.iconstV X0.here hx rfl (1 : Int32) (hb hby d1_9) rfl ?_
      refine XS.goto X0.here hx rfl (pc0 := 10) (pc' := 14) rfl (hb hby d1_10) (by decide) (by decide) ?_
      exact cont
    refine own_end X0 (v := some (.int (1 : Int32))) (fun h => by rw [Bd.returns] at h; cases h) hlk ?_ (by decide) (by decide) (fun fs hl => retN X0 hx (t := .boolean) Bd.returns (by simp) (hb hby d1_14) hl)
    exact ⟨(by unfold own_has; first | exact rfl | (simp only [if_pos hc1]; first | done | exact rfl)), N0, e0⟩
  ·
    refine own_go (B := s₁.setTop (mkF m 14 #[.val (.int p1), .val (.int p2)] [(.int (0 : Int32))])) (fun tgt cont => ?_) ?_
    · refine XS.icmpYes X0.here hx rfl (pc0 := 6) (pc' := 13) rfl (hb hby d1_6) rfl (XT.ii_le_t hc1) (by decide) (by decide) ?_
      refine XT.iconstV X0.here hx rfl (0 : Int32) (hb hby d1_13) rfl ?_
      exact cont
    refine own_end X0 (v := some (.int (0 : Int32))) (fun h => by rw [Bd.returns] at h; cases h) hlk ?_ (by decide) (by decide) (fun fs hl => retN X0 hx (t := .boolean) Bd.returns (by simp) (hb hby d1_14) hl)
    exact ⟨(by unfold own_has; first | exact rfl | (simp only [if_neg hc1]; first | done | exact rfl)), N0, e0⟩
def own_bnd (v1 : Int32) : Int64 := if (v1 % (2 : Int32)) = (1 : Int32) then (((3 : Int64) * ((1 : Int64) <<< ((v1 / (2 : Int32)) &&& 0x3f).toInt64)) - (2 : Int64)) else ((2 : Int64) * (((1 : Int64) <<< ((v1 / (2 : Int32)) &&& 0x3f).toInt64) - (1 : Int64)))
theorem own_bnd_tab : ∀ j : Fin 32, (own_bnd (3 + Int32.ofNat j.1)).toInt % 2 = 0 ∧ 4 ≤ (own_bnd (3 + Int32.ofNat j.1)).toInt ∧ (own_bnd (3 + Int32.ofNat j.1)).toInt ≤ 262142 ∧ (j.1 = 0 → (own_bnd (3 + Int32.ofNat j.1)).toInt = 4) ∧ (j.1 = 1 → (own_bnd (3 + Int32.ofNat j.1)).toInt = 6) ∧ (2 ≤ j.1 → 2 * (3 + (j.1 : Int)) - 2 < (own_bnd (3 + Int32.ofNat j.1)).toInt) ∧ (3 + Int32.ofNat j.1).toInt = 3 + (j.1 : Int) := by decide +kernel
theorem own_and (x m : Int32) (k : Nat) (hk : k ≤ 31) (hm : m.toBitVec.toNat = 2 ^ k - 1) : ∃ j : Fin (2 ^ k), (x &&& m) = Int32.ofNat j.1 := by
  have h := c_mask x m k hk hm
  have h0 : (0 : Int) < (2 ^ k : Nat) := by exact_mod_cast Nat.two_pow_pos k
  have h1 := Int.emod_nonneg x.toInt (Int.ne_of_gt h0)
  have h2 := Int.emod_lt_of_pos x.toInt h0
  have h3 : (2 ^ k : Nat) ≤ 2 ^ 31 := Nat.pow_le_pow_right (by omega) hk
  obtain ⟨n, hn⟩ := Int.eq_ofNat_of_zero_le (a := (x &&& m).toInt) (by rw [h]; exact h1)
  have h4 : n < 2 ^ k := by omega
  refine ⟨⟨n, h4⟩, ?_⟩
  apply Int32.toInt_inj.mp
  rw [Int32.toInt_ofNat_of_lt (by omega)]
  exact hn
theorem own_span (B : Int64) (h2 : 4 ≤ B.toInt) (h3 : B.toInt ≤ 262142) : (((2147483646 : Int64) - B) / 2 + 1).toInt = (2147483646 - B.toInt) / 2 + 1 := by
  have a := c_lsub 2147483646 B
  have e1 : (2147483646 : Int64).toInt = 2147483646 := rfl
  have e2 : (1 : Int64).toInt = 1 := rfl
  generalize (2147483646 : Int64) - B = D at *
  have b := (c_ldiv D 2 2 rfl (by decide)).1
  generalize D / 2 = E at *
  have c := c_ladd E 1
  have r1 := rng64 D
  have r2 := rng64 (E + 1)
  generalize E + 1 = F at *
  rw [e1] at a
  rw [e2] at c
  omega
theorem own_nz (B : Int64) (h2 : 4 ≤ B.toInt) (h3 : B.toInt ≤ 262142) : (((2147483646 : Int64) - B) / 2 + 1) ≠ 0 := by
  intro e
  have h := own_span B h2 h3
  rw [e] at h
  have e0 : (0 : Int64).toInt = 0 := rfl
  omega
theorem own_n (B F X : Int64) (h1 : B.toInt % 2 = 0) (h2 : 4 ≤ B.toInt) (h3 : B.toInt ≤ 262142) (hF : F.toInt = (2147483646 - B.toInt) / 2 + 1) (hX : 0 ≤ X.toInt) :
    ∃ q : Int, 0 ≤ q ∧ (B + 2 * (X % F)).toInt32.toInt = B.toInt + 2 * q ∧ B.toInt + 2 * q ≤ 2147483646 := by
  have m := Int64.toInt_mod X F
  rw [Int.tmod_eq_emod_of_nonneg hX] at m
  have m1 := Int.emod_nonneg X.toInt (b := F.toInt) (by omega)
  have m2 := Int.emod_lt_of_pos X.toInt (b := F.toInt) (by omega)
  generalize X % F = R at *
  have a := c_lmul 2 R
  have e2 : (2 : Int64).toInt = 2 := rfl
  rw [e2] at a
  have r1 := rng64 (2 * R)
  generalize 2 * R = D at *
  have b := c_ladd B D
  have r2 := rng64 (B + D)
  generalize B + D = E at *
  have c := c_l2i E
  have r3 := rng32 E.toInt32
  generalize E.toInt32 = G at *
  exact ⟨R.toInt, by omega, by omega, by omega⟩
theorem own_and31 (x : Int32) : 0 ≤ ((x &&& (2147483647 : Int32)).toInt64).toInt := by
  have h := c_mask x 2147483647 31 (by decide) (by decide)
  rw [c_i2l, h]
  exact Int.emod_nonneg _ (by decide)
theorem own_pq {P Q : Prop} [Decidable P] [Decidable Q] : (if P then (if Q then (1 : Int32) else (0 : Int32)) else (0 : Int32)) = 0 ↔ ¬ (P ∧ Q) := by
  by_cases p : P <;> by_cases q : Q <;> simp [p, q]
theorem own_fin (g n : Int32) (B : Int64) (j : Nat) (q : Int) (hj : j < 32) (hg : g.toInt = 3 + (j : Int)) (hn : n.toInt = B.toInt + 2 * q) (hq : 0 ≤ q) (hn2 : B.toInt + 2 * q ≤ 2147483646)
    (h4 : j = 0 → B.toInt = 4) (h5 : j = 1 → B.toInt = 6) (h6 : 2 ≤ j → 2 * (3 + (j : Int)) - 2 < B.toInt) :
    own_has n g = (if (if n = (4 : Int32) then (if g = (3 : Int32) then (1 : Int32) else (0 : Int32)) else (0 : Int32)) = 0 then (if (if n = (6 : Int32) then (if g = (4 : Int32) then (1 : Int32) else (0 : Int32)) else (0 : Int32)) = 0 then (1 : Int32) else (0 : Int32)) else (0 : Int32)) := by
  have a := c_imul 2 g
  have e2 : (2 : Int32).toInt = 2 := rfl
  have e3 : (3 : Int32).toInt = 3 := rfl
  have e4 : (4 : Int32).toInt = 4 := rfl
  have e6 : (6 : Int32).toInt = 6 := rfl
  unfold own_has
  rw [e2] at a
  have r1 := rng32 (2 * g)
  generalize 2 * g = D at *
  have b := c_isub D 2
  have r2 := rng32 (D - 2)
  rw [e2] at b
  generalize D - 2 = E at *
  have lt : E < n ↔ E.toInt < n.toInt := Int32.lt_iff_toInt_lt
  simp only [own_pq]
  simp only [lt, ← Int32.toInt_inj, e3, e4, e6]
  generalize n.toInt = N at *
  generalize g.toInt = G at *
  generalize E.toInt = EE at *
  repeat' split
  all_goals first | rfl | (exfalso; omega)

def Q0 (n0 : Nat) (v : Option Value) (h : Heap) (L : List Loc) : Prop := v = some (.int (1 : Int32)) ∧ Fr n0 L
theorem own_pn1 : plainName "com/example/cyclecut/cyclecut/cubic/CubicGraphsHasCyclicEdgeCutPinLaw" = true := by first | (simp [plainName, overriddenIn]; done) | decide +kernel
theorem own_eq0 (p1 : Int32)  : (((((2147483646 : Int64) - ((if ((((3 : Int32) + (p1 &&& (31 : Int32)))) % (2 : Int32)) = (1 : Int32) then (((3 : Int64) * (((1 : Int64) <<< ((((((3 : Int32) + (p1 &&& (31 : Int32)))) / (2 : Int32))) &&& 0x3f).toInt64))) - (2 : Int64)) else ((2 : Int64) * ((((1 : Int64) <<< ((((((3 : Int32) + (p1 &&& (31 : Int32)))) / (2 : Int32))) &&& 0x3f).toInt64)) - (1 : Int64)))))) / (2 : Int64)) + (1 : Int64))) ≠ 0 := by
  obtain ⟨j, hj⟩ := own_and p1 31 5 (by decide) (by decide)
  obtain ⟨h1, h2, h3, h4, h5, h6, h7⟩ := own_bnd_tab j
  rw [← hj] at h1 h2 h3 h4 h5 h6 h7
  exact own_nz _ h2 h3
theorem own_pd0 : parseMethodDescriptor "(II)Z" = some ⟨[.int, .int], some .boolean⟩ := by decide +kernel
theorem own_eq1 (p1 : Int32) (p2 : Int32)  : ((own_has (((((if ((((3 : Int32) + (p1 &&& (31 : Int32)))) % (2 : Int32)) = (1 : Int32) then (((3 : Int64) * (((1 : Int64) <<< ((((((3 : Int32) + (p1 &&& (31 : Int32)))) / (2 : Int32))) &&& 0x3f).toInt64))) - (2 : Int64)) else ((2 : Int64) * ((((1 : Int64) <<< ((((((3 : Int32) + (p1 &&& (31 : Int32)))) / (2 : Int32))) &&& 0x3f).toInt64)) - (1 : Int64))))) + ((2 : Int64) * ((((p2 &&& (2147483647 : Int32)).toInt64) % (((((2147483646 : Int64) - ((if ((((3 : Int32) + (p1 &&& (31 : Int32)))) % (2 : Int32)) = (1 : Int32) then (((3 : Int64) * (((1 : Int64) <<< ((((((3 : Int32) + (p1 &&& (31 : Int32)))) / (2 : Int32))) &&& 0x3f).toInt64))) - (2 : Int64)) else ((2 : Int64) * ((((1 : Int64) <<< ((((((3 : Int32) + (p1 &&& (31 : Int32)))) / (2 : Int32))) &&& 0x3f).toInt64)) - (1 : Int64)))))) / (2 : Int64)) + (1 : Int64))))))).toInt32)) (((3 : Int32) + (p1 &&& (31 : Int32)))))) = ((if ((if (((((if ((((3 : Int32) + (p1 &&& (31 : Int32)))) % (2 : Int32)) = (1 : Int32) then (((3 : Int64) * (((1 : Int64) <<< ((((((3 : Int32) + (p1 &&& (31 : Int32)))) / (2 : Int32))) &&& 0x3f).toInt64))) - (2 : Int64)) else ((2 : Int64) * ((((1 : Int64) <<< ((((((3 : Int32) + (p1 &&& (31 : Int32)))) / (2 : Int32))) &&& 0x3f).toInt64)) - (1 : Int64))))) + ((2 : Int64) * ((((p2 &&& (2147483647 : Int32)).toInt64) % (((((2147483646 : Int64) - ((if ((((3 : Int32) + (p1 &&& (31 : Int32)))) % (2 : Int32)) = (1 : Int32) then (((3 : Int64) * (((1 : Int64) <<< ((((((3 : Int32) + (p1 &&& (31 : Int32)))) / (2 : Int32))) &&& 0x3f).toInt64))) - (2 : Int64)) else ((2 : Int64) * ((((1 : Int64) <<< ((((((3 : Int32) + (p1 &&& (31 : Int32)))) / (2 : Int32))) &&& 0x3f).toInt64)) - (1 : Int64)))))) / (2 : Int64)) + (1 : Int64))))))).toInt32)) = (4 : Int32) then (if (((3 : Int32) + (p1 &&& (31 : Int32)))) = (3 : Int32) then (1 : Int32) else (0 : Int32)) else (0 : Int32))) = 0 then (if ((if (((((if ((((3 : Int32) + (p1 &&& (31 : Int32)))) % (2 : Int32)) = (1 : Int32) then (((3 : Int64) * (((1 : Int64) <<< ((((((3 : Int32) + (p1 &&& (31 : Int32)))) / (2 : Int32))) &&& 0x3f).toInt64))) - (2 : Int64)) else ((2 : Int64) * ((((1 : Int64) <<< ((((((3 : Int32) + (p1 &&& (31 : Int32)))) / (2 : Int32))) &&& 0x3f).toInt64)) - (1 : Int64))))) + ((2 : Int64) * ((((p2 &&& (2147483647 : Int32)).toInt64) % (((((2147483646 : Int64) - ((if ((((3 : Int32) + (p1 &&& (31 : Int32)))) % (2 : Int32)) = (1 : Int32) then (((3 : Int64) * (((1 : Int64) <<< ((((((3 : Int32) + (p1 &&& (31 : Int32)))) / (2 : Int32))) &&& 0x3f).toInt64))) - (2 : Int64)) else ((2 : Int64) * ((((1 : Int64) <<< ((((((3 : Int32) + (p1 &&& (31 : Int32)))) / (2 : Int32))) &&& 0x3f).toInt64)) - (1 : Int64)))))) / (2 : Int64)) + (1 : Int64))))))).toInt32)) = (6 : Int32) then (if (((3 : Int32) + (p1 &&& (31 : Int32)))) = (4 : Int32) then (1 : Int32) else (0 : Int32)) else (0 : Int32))) = 0 then (1 : Int32) else (0 : Int32)) else (0 : Int32))) := by
  obtain ⟨j, hj⟩ := own_and p1 31 5 (by decide) (by decide)
  obtain ⟨h1, h2, h3, h4, h5, h6, h7⟩ := own_bnd_tab j
  rw [← hj] at h1 h2 h3 h4 h5 h6 h7
  obtain ⟨q, q1, q2, q3⟩ := own_n _ _ ((p2 &&& (2147483647 : Int32)).toInt64) h1 h2 h3 (own_span _ h2 h3) (own_and31 p2)
  exact own_fin _ _ _ j.1 q j.2 h7 q2 q1 q3 h4 h5 h6
set_option maxRecDepth 65536 in
set_option maxHeartbeats 40000000 in
theorem rm0 (l : Launch) (Z : State) (a0 : Array Value) (hw : ∀ d ∈ tables_1, d.before a0 Z = true) (ws : List Jvm.Cond) (p1 : Int32) (p2 : Int32) (h0 : Heap) (n0 : Nat) (Z0 : n0 ≤ h0.size)  :
    MetFree l x (head1 (Jvm.Cond.code x code maxLocals ret :: ws) room_1) (fun aa U => aa = #[(.int p1), (.int p2)] ∧ Z.Warmed39 U.vm ∧ U.heap = h0) (fun _ _ _ _ _ => True) (fun _ U o U' => ∃ v L, o = .returned v ∧ Q0 n0 v U'.heap L ∧ FrameEnd U o U' L room_1.cells room_1.slots) := by
  refine MetFree.of_bodySF (plainFor_of_name own_pn1) hisR ?_
  intro p e s m args below meth c s₁ Bd hml0 hP hK
  obtain ⟨rfl, hZ, hh⟩ := hP
  have hx := Bd.exec
  have hby := Bd.bytes
  have hml : c.maxLocals = 16 := hml0
  have hlk : meth.locks = false := BodyLoose.notSynchronized Bd
  have hown : s.vm.findClass "com/example/cyclecut/cyclecut/cubic/CubicGraphsHasCyclicEdgeCutPinLaw" = some m.cls := findClass_of_methodNamed Bd.named
  have hnm := (name_of_methodNamed Bd.named Bd.method).1
  have X0 : Stand p l e room_1 s m #[(.int p1), (.int p2)] below meth c s₁ [] 0 0 := Stand.of_body Bd
  have e0 : s₁.heap = h0 := by rw [← hh, Bd.state]; rfl
  have N0 := Fr.nil n0
  show own_Go p e below s (Q0 n0) room_1.cells room_1.slots (s₁.setTop (entryFrame m #[(.int p1), (.int p2)] maxLocals))
  refine own_go (B := s₁.setTop (mkF m 0 #[.val (.int p1), .val (.int p2), .unset, .unset, .unset, .unset, .unset, .unset, .unset, .unset, .unset, .unset, .unset, .unset, .unset, .unset] [])) (fun tgt cont => (XT.entry rfl).trans cont) ?_
  refine own_go (B := s₁.setTop (mkF m 6 #[.val (.int p1), .val (.int p2), .unset, .unset, .unset, .unset, .unset, .unset, .unset, .unset, .unset, .unset, .unset, .unset, .unset, .unset] [(.int ((3 : Int32) + (p1 &&& (31 : Int32))))])) (fun tgt cont => ?_) ?_
  · refine XT.iconstV X0.here hx rfl (3 : Int32) (hb hby at_0) rfl ?_
    refine XS.iloadN X0.here hx rfl (hb hby at_1) rfl ?_
    refine XT.bipushV X0.here hx rfl (31 : Int32) (hb hby at_2) rfl ?_
    refine XS.iand X0.here hx rfl (hb hby at_4) rfl ?_
    refine XS.iadd X0.here hx rfl (hb hby at_5) rfl ?_
    exact cont
  generalize hv1 : ((3 : Int32) + (p1 &&& (31 : Int32))) = v1
  refine own_go (B := s₁.setTop (mkF m 10 #[.val (.int p1), .val (.int p2), .val (.int v1), .unset, .unset, .unset, .unset, .unset, .unset, .unset, .unset, .unset, .unset, .unset, .unset, .unset] [(.int (v1 / (2 : Int32)))])) (fun tgt cont => ?_) ?_
  · refine XS.istoreN X0.here hx rfl (hb hby at_6) rfl (l' := #[.val (.int p1), .val (.int p2), .val (.int v1), .unset, .unset, .unset, .unset, .unset, .unset, .unset, .unset, .unset, .unset, .unset, .unset, .unset]) rfl ?_
    refine XS.iloadN X0.here hx rfl (hb hby at_7) rfl ?_
    refine XT.iconstV X0.here hx rfl (2 : Int32) (hb hby at_8) rfl ?_
    refine XS.idiv X0.here hx rfl (hb hby at_9) rfl (by decide) ?_
    exact cont
  generalize hv2 : (v1 / (2 : Int32)) = v2
  refine own_go (B := s₁.setTop (mkF m 14 #[.val (.int p1), .val (.int p2), .val (.int v1), .val (.int v2), .unset, .unset, .unset, .unset, .unset, .unset, .unset, .unset, .unset, .unset, .unset, .unset] [(.long ((1 : Int64) <<< (v2 &&& 0x3f).toInt64))])) (fun tgt cont => ?_) ?_
  · refine XS.istoreN X0.here hx rfl (hb hby at_10) rfl (l' := #[.val (.int p1), .val (.int p2), .val (.int v1), .val (.int v2), .unset, .unset, .unset, .unset, .unset, .unset, .unset, .unset, .unset, .unset, .unset, .unset]) rfl ?_
    refine XT.lconstV X0.here hx rfl (1 : Int64) (hb hby at_11) rfl ?_
    refine XS.iloadN X0.here hx rfl (hb hby at_12) rfl ?_
    refine XS.lshl X0.here hx rfl (hb hby at_13) rfl ?_
    exact cont
  generalize hv3 : ((1 : Int64) <<< (v2 &&& 0x3f).toInt64) = v3
  refine own_go (B := s₁.setTop (mkF m 20 #[.val (.int p1), .val (.int p2), .val (.int v1), .val (.int v2), .val (.long v3), .second, .unset, .unset, .unset, .unset, .unset, .unset, .unset, .unset, .unset, .unset] [(.int (1 : Int32)), (.int (v1 % (2 : Int32)))])) (fun tgt cont => ?_) ?_
  · refine XS.lstore X0.here hx rfl (hb hby at_14) rfl (l' := #[.val (.int p1), .val (.int p2), .val (.int v1), .val (.int v2), .val (.long v3), .second, .unset, .unset, .unset, .unset, .unset, .unset, .unset, .unset, .unset, .unset]) rfl ?_
    refine XS.iloadN X0.here hx rfl (hb hby at_16) rfl ?_
    refine XT.iconstV X0.here hx rfl (2 : Int32) (hb hby at_17) rfl ?_
    refine iremM X0 hx rfl (hb hby at_18) rfl (by decide) ?_
    refine XT.iconstV X0.here hx rfl (1 : Int32) (hb hby at_19) rfl ?_
    exact cont
  have K4 : ∀ (v5 : Int64) (hv5 : v5 = (if (v1 % (2 : Int32)) = (1 : Int32) then (((3 : Int64) * v3) - (2 : Int64)) else ((2 : Int64) * (v3 - (1 : Int64))))), own_Go p e below s (Q0 n0) room_1.cells room_1.slots (s₁.setTop (mkF m 44 #[.val (.int p1), .val (.int p2), .val (.int v1), .val (.int v2), .val (.long v3), .second, .unset, .unset, .unset, .unset, .unset, .unset, .unset, .unset, .unset, .unset] [(.long v5)])) := by
    intro v5 hv5
    refine own_go (B := s₁.setTop (mkF m 58 #[.val (.int p1), .val (.int p2), .val (.int v1), .val (.int v2), .val (.long v3), .second, .val (.long v5), .second, .unset, .unset, .unset, .unset, .unset, .unset, .unset, .unset] [(.long ((((2147483646 : Int64) - v5) / (2 : Int64)) + (1 : Int64)))])) (fun tgt cont => ?_) ?_
    · refine XS.lstore X0.here hx rfl (hb hby at_44) rfl (l' := #[.val (.int p1), .val (.int p2), .val (.int v1), .val (.int v2), .val (.long v3), .second, .val (.long v5), .second, .unset, .unset, .unset, .unset, .unset, .unset, .unset, .unset]) rfl ?_
      refine Stand.ldc2J X0 hx hown (mvT hZ (hw _ (List.mem_of_getElem? (i := 2) rfl))) rfl (hb hby at_46) ?_
      refine XS.lload X0.here hx rfl (hb hby at_49) rfl ?_
      refine XS.lsub X0.here hx rfl (hb hby at_51) rfl ?_
      refine Stand.ldc2J X0 hx hown (mvT hZ (hw _ (List.mem_of_getElem? (i := 1) rfl))) rfl (hb hby at_52) ?_
      refine XS.ldiv X0.here hx rfl (hb hby at_55) rfl (by decide) ?_
      refine XT.lconstV X0.here hx rfl (1 : Int64) (hb hby at_56) rfl ?_
      refine XS.ladd X0.here hx rfl (hb hby at_57) rfl ?_
      exact cont
    generalize hv6 : ((((2147483646 : Int64) - v5) / (2 : Int64)) + (1 : Int64)) = v6
    refine own_go (B := s₁.setTop (mkF m 68 #[.val (.int p1), .val (.int p2), .val (.int v1), .val (.int v2), .val (.long v3), .second, .val (.long v5), .second, .val (.long v6), .second, .unset, .unset, .unset, .unset, .unset, .unset] [(.long (((p2 &&& (2147483647 : Int32)).toInt64) % v6))])) (fun tgt cont => ?_) ?_
    · refine XS.lstore X0.here hx rfl (hb hby at_58) rfl (l' := #[.val (.int p1), .val (.int p2), .val (.int v1), .val (.int v2), .val (.long v3), .second, .val (.long v5), .second, .val (.long v6), .second, .unset, .unset, .unset, .unset, .unset, .unset]) rfl ?_
      refine XS.iloadN X0.here hx rfl (hb hby at_60) rfl ?_
      refine Stand.ldcI X0 hx hown (mvT hZ (hw _ (List.mem_of_getElem? (i := 3) rfl))) rfl (hb hby at_61) ?_
      refine XS.iand X0.here hx rfl (hb hby at_63) rfl ?_
      refine XS.i2l X0.here hx rfl (hb hby at_64) rfl ?_
      refine XS.lload X0.here hx rfl (hb hby at_65) rfl ?_
      refine own_lrem X0.here hx rfl (hb hby at_67) rfl (by subst hv6 hv5 hv1 hv3 hv2; exact own_eq0 p1 ) ?_
      exact cont
    generalize hv7 : (((p2 &&& (2147483647 : Int32)).toInt64) % v6) = v7
    refine own_go (B := s₁.setTop (mkF m 80 #[.val (.int p1), .val (.int p2), .val (.int v1), .val (.int v2), .val (.long v3), .second, .val (.long v5), .second, .val (.long v6), .second, .val (.long v7), .second, .unset, .unset, .unset, .unset] [(.int ((v5 + ((2 : Int64) * v7)).toInt32))])) (fun tgt cont => ?_) ?_
    · refine XS.lstore X0.here hx rfl (hb hby at_68) rfl (l' := #[.val (.int p1), .val (.int p2), .val (.int v1), .val (.int v2), .val (.long v3), .second, .val (.long v5), .second, .val (.long v6), .second, .val (.long v7), .second, .unset, .unset, .unset, .unset]) rfl ?_
      refine XS.lload X0.here hx rfl (hb hby at_70) rfl ?_
      refine Stand.ldc2J X0 hx hown (mvT hZ (hw _ (List.mem_of_getElem? (i := 1) rfl))) rfl (hb hby at_72) ?_
      refine XS.lload X0.here hx rfl (hb hby at_75) rfl ?_
      refine XS.lmul X0.here hx rfl (hb hby at_77) rfl ?_
      refine XS.ladd X0.here hx rfl (hb hby at_78) rfl ?_
      refine XS.l2i X0.here hx rfl (hb hby at_79) rfl ?_
      exact cont
    generalize hv8 : ((v5 + ((2 : Int64) * v7)).toInt32) = v8
    refine own_go (B := s₁.setTop (mkF m 85 #[.val (.int p1), .val (.int p2), .val (.int v1), .val (.int v2), .val (.long v3), .second, .val (.long v5), .second, .val (.long v6), .second, .val (.long v7), .second, .val (.int v8), .unset, .unset, .unset] [(.int (4 : Int32)), (.int v8)])) (fun tgt cont => ?_) ?_
    · refine XS.istore X0.here hx rfl (hb hby at_80) rfl (l' := #[.val (.int p1), .val (.int p2), .val (.int v1), .val (.int v2), .val (.long v3), .second, .val (.long v5), .second, .val (.long v6), .second, .val (.long v7), .second, .val (.int v8), .unset, .unset, .unset]) rfl ?_
      refine XS.iload X0.here hx rfl (hb hby at_82) rfl ?_
      refine XT.iconstV X0.here hx rfl (4 : Int32) (hb hby at_84) rfl ?_
      exact cont
    have K9 : ∀ (v10 : Int32) (hv10 : v10 = (if v8 = (4 : Int32) then (if v1 = (3 : Int32) then (1 : Int32) else (0 : Int32)) else (0 : Int32))), own_Go p e below s (Q0 n0) room_1.cells room_1.slots (s₁.setTop (mkF m 98 #[.val (.int p1), .val (.int p2), .val (.int v1), .val (.int v2), .val (.long v3), .second, .val (.long v5), .second, .val (.long v6), .second, .val (.long v7), .second, .val (.int v8), .unset, .unset, .unset] [(.int v10)])) := by
      intro v10 hv10
      refine own_go (B := s₁.setTop (mkF m 104 #[.val (.int p1), .val (.int p2), .val (.int v1), .val (.int v2), .val (.long v3), .second, .val (.long v5), .second, .val (.long v6), .second, .val (.long v7), .second, .val (.int v8), .val (.int v10), .unset, .unset] [(.int (6 : Int32)), (.int v8)])) (fun tgt cont => ?_) ?_
      · refine XS.istore X0.here hx rfl (hb hby at_98) rfl (l' := #[.val (.int p1), .val (.int p2), .val (.int v1), .val (.int v2), .val (.long v3), .second, .val (.long v5), .second, .val (.long v6), .second, .val (.long v7), .second, .val (.int v8), .val (.int v10), .unset, .unset]) rfl ?_
        refine XS.iload X0.here hx rfl (hb hby at_100) rfl ?_
        refine XT.bipushV X0.here hx rfl (6 : Int32) (hb hby at_102) rfl ?_
        exact cont
      have K11 : ∀ (v12 : Int32) (hv12 : v12 = (if v8 = (6 : Int32) then (if v1 = (4 : Int32) then (1 : Int32) else (0 : Int32)) else (0 : Int32))), own_Go p e below s (Q0 n0) room_1.cells room_1.slots (s₁.setTop (mkF m 117 #[.val (.int p1), .val (.int p2), .val (.int v1), .val (.int v2), .val (.long v3), .second, .val (.long v5), .second, .val (.long v6), .second, .val (.long v7), .second, .val (.int v8), .val (.int v10), .unset, .unset] [(.int v12)])) := by
        intro v12 hv12
        refine own_go (B := s₁.setTop (mkF m 121 #[.val (.int p1), .val (.int p2), .val (.int v1), .val (.int v2), .val (.long v3), .second, .val (.long v5), .second, .val (.long v6), .second, .val (.long v7), .second, .val (.int v8), .val (.int v10), .val (.int v12), .unset] [(.int v10)])) (fun tgt cont => ?_) ?_
        · refine XS.istore X0.here hx rfl (hb hby at_117) rfl (l' := #[.val (.int p1), .val (.int p2), .val (.int v1), .val (.int v2), .val (.long v3), .second, .val (.long v5), .second, .val (.long v6), .second, .val (.long v7), .second, .val (.int v8), .val (.int v10), .val (.int v12), .unset]) rfl ?_
          refine XS.iload X0.here hx rfl (hb hby at_119) rfl ?_
          exact cont
        have K13 : ∀ (v14 : Int32) (hv14 : v14 = (if v10 = 0 then (if v12 = 0 then (1 : Int32) else (0 : Int32)) else (0 : Int32))), own_Go p e below s (Q0 n0) room_1.cells room_1.slots (s₁.setTop (mkF m 134 #[.val (.int p1), .val (.int p2), .val (.int v1), .val (.int v2), .val (.long v3), .second, .val (.long v5), .second, .val (.long v6), .second, .val (.long v7), .second, .val (.int v8), .val (.int v10), .val (.int v12), .unset] [(.int v14)])) := by
          intro v14 hv14
          refine own_go (B := s₁.setTop (mkF m 139 #[.val (.int p1), .val (.int p2), .val (.int v1), .val (.int v2), .val (.long v3), .second, .val (.long v5), .second, .val (.long v6), .second, .val (.long v7), .second, .val (.int v8), .val (.int v10), .val (.int v12), .val (.int v14)] [(.int v1), (.int v8)])) (fun tgt cont => ?_) ?_
          · refine XS.istore X0.here hx rfl (hb hby at_134) rfl (l' := #[.val (.int p1), .val (.int p2), .val (.int v1), .val (.int v2), .val (.long v3), .second, .val (.long v5), .second, .val (.long v6), .second, .val (.long v7), .second, .val (.int v8), .val (.int v10), .val (.int v12), .val (.int v14)]) rfl ?_
            refine XS.iload X0.here hx rfl (hb hby at_136) rfl ?_
            refine XS.iloadN X0.here hx rfl (hb hby at_138) rfl ?_
            exact cont
          -- pc 139: CubicGraphs.hasCyclicEdgeCut
          obtain ⟨_, _, ⟨T15, L15, k15, n15⟩, -, X15, ⟨Lc15, hQ15, l15, y15, z15⟩, st15⟩ := Jvm.LawKit.callS X0 hx (y := (⟨"com/example/cyclecut/cyclecut/cubic/CubicGraphs", "hasCyclicEdgeCut", "(II)Z"⟩ : MethodName)) hown (mvT hZ (hw _ (List.mem_of_getElem? (i := 4) rfl))) (mvT hZ (hw _ (List.mem_of_getElem? (i := 5) rfl))) (mvT hZ (hw _ (List.mem_of_getElem? (i := 6) rfl))) (mvT hZ (hw _ (List.mem_of_getElem? (i := 7) rfl))) (by decide) (backOf (W := 0) (rm1 l Z a0 hw [] v8 v1 h0 n0 Z0 ) hZ (hw _ (List.mem_of_getElem? (i := 7) rfl)) (hw _ (List.mem_of_getElem? (i := 6) rfl)) (by decide) (by decide)) (g := (mkF m 139 #[.val (.int p1), .val (.int p2), .val (.int v1), .val (.int v2), .val (.long v3), .second, .val (.long v5), .second, .val (.long v6), .second, .val (.long v7), .second, .val (.int v8), .val (.int v10), .val (.int v12), .val (.int v14)] [(.int v1), (.int v8)])) rfl (by rw [hml]; rfl) (argsL := [(.int v8), (.int v1)]) (rest := []) (lenOf own_pd0 rfl) rfl (by show 2 * 0 + _ ≤ _; exact Nat.le_of_eq rfl) (hb hby at_139) (fun _ _ => ⟨rfl, e0, (by decide : 0 + 0 ≤ _), (by decide : 0 + 0 ≤ _)⟩)
          dsimp only [Pt.U, Pt.locs, Pt.cells, Pt.slots] at X15 l15 y15 z15 st15 hQ15
          subst l15 y15 z15
          obtain ⟨rfl, N15q, e15⟩ := hQ15
          have N15 := Fr.app N0 N15q
          refine own_go (fun tgt cont => st15 tgt cont) ?_
          show own_Go p e below s (Q0 n0) room_1.cells room_1.slots (T15.setTop (mkF m 142 #[.val (.int p1), .val (.int p2), .val (.int v1), .val (.int v2), .val (.long v3), .second, .val (.long v5), .second, .val (.long v6), .second, .val (.long v7), .second, .val (.int v8), .val (.int v10), .val (.int v12), .val (.int v14)] [(.int (own_has v8 v1))]))
          generalize hr16 : (own_has v8 v1) = r16
          refine own_go (B := T15.setTop (mkF m 152 #[.val (.int p1), .val (.int p2), .val (.int v1), .val (.int v2), .val (.long v3), .second, .val (.long v5), .second, .val (.long v6), .second, .val (.long v7), .second, .val (.int v8), .val (.int v10), .val (.int v12), .val (.int v14)] [(.int (1 : Int32))])) (fun tgt cont => ?_) ?_
          · refine XS.iload X15.here hx rfl (hb hby at_142) rfl ?_
            refine XS.icmpNo X15.here hx rfl (hb hby at_144) rfl (XT.ii_ne_f (by subst hr16 hv14 hv10 hv12 hv8 hv1 hv5 hv7 hv6 hv3 hv2; exact own_eq1 p1 p2 )) ?_
            refine XT.iconstV X15.here hx rfl (1 : Int32) (hb hby at_147) rfl ?_
            refine XS.goto X15.here hx rfl (pc0 := 148) (pc' := 152) rfl (hb hby at_148) (by decide) (by decide) ?_
            exact cont
          refine own_end X15 (v := some (.int (1 : Int32))) (fun h => by rw [Bd.returns] at h; cases h) hlk ?_ (by decide) (by decide) (fun fs hl => retN X15 hx (t := .boolean) Bd.returns (by simp) (hb hby at_152) hl)
          exact ⟨rfl, N15⟩
        by_cases hc17 : v10 = 0
        ·
          refine own_go (B := s₁.setTop (mkF m 126 #[.val (.int p1), .val (.int p2), .val (.int v1), .val (.int v2), .val (.long v3), .second, .val (.long v5), .second, .val (.long v6), .second, .val (.long v7), .second, .val (.int v8), .val (.int v10), .val (.int v12), .unset] [(.int v12)])) (fun tgt cont => ?_) ?_
          · refine XS.ifNo X0.here hx rfl (hb hby at_121) rfl (XT.i0_ne_f hc17) ?_
            refine XS.iload X0.here hx rfl (hb hby at_124) rfl ?_
            exact cont
          by_cases hc18 : v12 = 0
          ·
            refine own_go (B := s₁.setTop (mkF m 134 #[.val (.int p1), .val (.int p2), .val (.int v1), .val (.int v2), .val (.long v3), .second, .val (.long v5), .second, .val (.long v6), .second, .val (.long v7), .second, .val (.int v8), .val (.int v10), .val (.int v12), .unset] [(.int (1 : Int32))])) (fun tgt cont => ?_) ?_
            · refine XS.ifNo X0.here hx rfl (hb hby at_126) rfl (XT.i0_ne_f hc18) ?_
              refine XT.iconstV X0.here hx rfl (1 : Int32) (hb hby at_129) rfl ?_
              refine XS.goto X0.here hx rfl (pc0 := 130) (pc' := 134) rfl (hb hby at_130) (by decide) (by decide) ?_
              exact cont
            exact K13 (1 : Int32) (by simp only [if_pos hc17, if_pos hc18])
          ·
            refine own_go (B := s₁.setTop (mkF m 134 #[.val (.int p1), .val (.int p2), .val (.int v1), .val (.int v2), .val (.long v3), .second, .val (.long v5), .second, .val (.long v6), .second, .val (.long v7), .second, .val (.int v8), .val (.int v10), .val (.int v12), .unset] [(.int (0 : Int32))])) (fun tgt cont => ?_) ?_
            · refine XS.ifYes X0.here hx rfl (pc0 := 126) (pc' := 133) rfl (hb hby at_126) rfl (XT.i0_ne_t hc18) (by decide) (by decide) ?_
              refine XT.iconstV X0.here hx rfl (0 : Int32) (hb hby at_133) rfl ?_
              exact cont
            exact K13 (0 : Int32) (by simp only [if_pos hc17, if_neg hc18])
        ·
          refine own_go (B := s₁.setTop (mkF m 134 #[.val (.int p1), .val (.int p2), .val (.int v1), .val (.int v2), .val (.long v3), .second, .val (.long v5), .second, .val (.long v6), .second, .val (.long v7), .second, .val (.int v8), .val (.int v10), .val (.int v12), .unset] [(.int (0 : Int32))])) (fun tgt cont => ?_) ?_
          · refine XS.ifYes X0.here hx rfl (pc0 := 121) (pc' := 133) rfl (hb hby at_121) rfl (XT.i0_ne_t hc17) (by decide) (by decide) ?_
            refine XT.iconstV X0.here hx rfl (0 : Int32) (hb hby at_133) rfl ?_
            exact cont
          exact K13 (0 : Int32) (by simp only [if_neg hc17])
      by_cases hc19 : v8 = (6 : Int32)
      ·
        refine own_go (B := s₁.setTop (mkF m 109 #[.val (.int p1), .val (.int p2), .val (.int v1), .val (.int v2), .val (.long v3), .second, .val (.long v5), .second, .val (.long v6), .second, .val (.long v7), .second, .val (.int v8), .val (.int v10), .unset, .unset] [(.int (4 : Int32)), (.int v1)])) (fun tgt cont => ?_) ?_
        · refine XS.icmpNo X0.here hx rfl (hb hby at_104) rfl (XT.ii_ne_f hc19) ?_
          refine XS.iloadN X0.here hx rfl (hb hby at_107) rfl ?_
          refine XT.iconstV X0.here hx rfl (4 : Int32) (hb hby at_108) rfl ?_
          exact cont
        by_cases hc20 : v1 = (4 : Int32)
        ·
          refine own_go (B := s₁.setTop (mkF m 117 #[.val (.int p1), .val (.int p2), .val (.int v1), .val (.int v2), .val (.long v3), .second, .val (.long v5), .second, .val (.long v6), .second, .val (.long v7), .second, .val (.int v8), .val (.int v10), .unset, .unset] [(.int (1 : Int32))])) (fun tgt cont => ?_) ?_
          · refine XS.icmpNo X0.here hx rfl (hb hby at_109) rfl (XT.ii_ne_f hc20) ?_
            refine XT.iconstV X0.here hx rfl (1 : Int32) (hb hby at_112) rfl ?_
            refine XS.goto X0.here hx rfl (pc0 := 113) (pc' := 117) rfl (hb hby at_113) (by decide) (by decide) ?_
            exact cont
          exact K11 (1 : Int32) (by simp only [if_pos hc19, if_pos hc20])
        ·
          refine own_go (B := s₁.setTop (mkF m 117 #[.val (.int p1), .val (.int p2), .val (.int v1), .val (.int v2), .val (.long v3), .second, .val (.long v5), .second, .val (.long v6), .second, .val (.long v7), .second, .val (.int v8), .val (.int v10), .unset, .unset] [(.int (0 : Int32))])) (fun tgt cont => ?_) ?_
          · refine XS.icmpYes X0.here hx rfl (pc0 := 109) (pc' := 116) rfl (hb hby at_109) rfl (XT.ii_ne_t hc20) (by decide) (by decide) ?_
            refine XT.iconstV X0.here hx rfl (0 : Int32) (hb hby at_116) rfl ?_
            exact cont
          exact K11 (0 : Int32) (by simp only [if_pos hc19, if_neg hc20])
      ·
        refine own_go (B := s₁.setTop (mkF m 117 #[.val (.int p1), .val (.int p2), .val (.int v1), .val (.int v2), .val (.long v3), .second, .val (.long v5), .second, .val (.long v6), .second, .val (.long v7), .second, .val (.int v8), .val (.int v10), .unset, .unset] [(.int (0 : Int32))])) (fun tgt cont => ?_) ?_
        · refine XS.icmpYes X0.here hx rfl (pc0 := 104) (pc' := 116) rfl (hb hby at_104) rfl (XT.ii_ne_t hc19) (by decide) (by decide) ?_
          refine XT.iconstV X0.here hx rfl (0 : Int32) (hb hby at_116) rfl ?_
          exact cont
        exact K11 (0 : Int32) (by simp only [if_neg hc19])
    by_cases hc21 : v8 = (4 : Int32)
    ·
      refine own_go (B := s₁.setTop (mkF m 90 #[.val (.int p1), .val (.int p2), .val (.int v1), .val (.int v2), .val (.long v3), .second, .val (.long v5), .second, .val (.long v6), .second, .val (.long v7), .second, .val (.int v8), .unset, .unset, .unset] [(.int (3 : Int32)), (.int v1)])) (fun tgt cont => ?_) ?_
      · refine XS.icmpNo X0.here hx rfl (hb hby at_85) rfl (XT.ii_ne_f hc21) ?_
        refine XS.iloadN X0.here hx rfl (hb hby at_88) rfl ?_
        refine XT.iconstV X0.here hx rfl (3 : Int32) (hb hby at_89) rfl ?_
        exact cont
      by_cases hc22 : v1 = (3 : Int32)
      ·
        refine own_go (B := s₁.setTop (mkF m 98 #[.val (.int p1), .val (.int p2), .val (.int v1), .val (.int v2), .val (.long v3), .second, .val (.long v5), .second, .val (.long v6), .second, .val (.long v7), .second, .val (.int v8), .unset, .unset, .unset] [(.int (1 : Int32))])) (fun tgt cont => ?_) ?_
        · refine XS.icmpNo X0.here hx rfl (hb hby at_90) rfl (XT.ii_ne_f hc22) ?_
          refine XT.iconstV X0.here hx rfl (1 : Int32) (hb hby at_93) rfl ?_
          refine XS.goto X0.here hx rfl (pc0 := 94) (pc' := 98) rfl (hb hby at_94) (by decide) (by decide) ?_
          exact cont
        exact K9 (1 : Int32) (by simp only [if_pos hc21, if_pos hc22])
      ·
        refine own_go (B := s₁.setTop (mkF m 98 #[.val (.int p1), .val (.int p2), .val (.int v1), .val (.int v2), .val (.long v3), .second, .val (.long v5), .second, .val (.long v6), .second, .val (.long v7), .second, .val (.int v8), .unset, .unset, .unset] [(.int (0 : Int32))])) (fun tgt cont => ?_) ?_
        · refine XS.icmpYes X0.here hx rfl (pc0 := 90) (pc' := 97) rfl (hb hby at_90) rfl (XT.ii_ne_t hc22) (by decide) (by decide) ?_
          refine XT.iconstV X0.here hx rfl (0 : Int32) (hb hby at_97) rfl ?_
          exact cont
        exact K9 (0 : Int32) (by simp only [if_pos hc21, if_neg hc22])
    ·
      refine own_go (B := s₁.setTop (mkF m 98 #[.val (.int p1), .val (.int p2), .val (.int v1), .val (.int v2), .val (.long v3), .second, .val (.long v5), .second, .val (.long v6), .second, .val (.long v7), .second, .val (.int v8), .unset, .unset, .unset] [(.int (0 : Int32))])) (fun tgt cont => ?_) ?_
      · refine XS.icmpYes X0.here hx rfl (pc0 := 85) (pc' := 97) rfl (hb hby at_85) rfl (XT.ii_ne_t hc21) (by decide) (by decide) ?_
        refine XT.iconstV X0.here hx rfl (0 : Int32) (hb hby at_97) rfl ?_
        exact cont
      exact K9 (0 : Int32) (by simp only [if_neg hc21])
  by_cases hc23 : (v1 % (2 : Int32)) = (1 : Int32)
  ·
    refine own_go (B := s₁.setTop (mkF m 44 #[.val (.int p1), .val (.int p2), .val (.int v1), .val (.int v2), .val (.long v3), .second, .unset, .unset, .unset, .unset, .unset, .unset, .unset, .unset, .unset, .unset] [(.long (((3 : Int64) * v3) - (2 : Int64)))])) (fun tgt cont => ?_) ?_
    · refine XS.icmpNo X0.here hx rfl (hb hby at_20) rfl (XT.ii_ne_f hc23) ?_
      refine Stand.ldc2J X0 hx hown (mvT hZ (hw _ (List.mem_of_getElem? (i := 0) rfl))) rfl (hb hby at_23) ?_
      refine XS.lload X0.here hx rfl (hb hby at_26) rfl ?_
      refine XS.lmul X0.here hx rfl (hb hby at_28) rfl ?_
      refine Stand.ldc2J X0 hx hown (mvT hZ (hw _ (List.mem_of_getElem? (i := 1) rfl))) rfl (hb hby at_29) ?_
      refine XS.lsub X0.here hx rfl (hb hby at_32) rfl ?_
      refine XS.goto X0.here hx rfl (pc0 := 33) (pc' := 44) rfl (hb hby at_33) (by decide) (by decide) ?_
      exact cont
    exact K4 (((3 : Int64) * v3) - (2 : Int64)) (by simp only [if_pos hc23])
  ·
    refine own_go (B := s₁.setTop (mkF m 44 #[.val (.int p1), .val (.int p2), .val (.int v1), .val (.int v2), .val (.long v3), .second, .unset, .unset, .unset, .unset, .unset, .unset, .unset, .unset, .unset, .unset] [(.long ((2 : Int64) * (v3 - (1 : Int64))))])) (fun tgt cont => ?_) ?_
    · refine XS.icmpYes X0.here hx rfl (pc0 := 20) (pc' := 36) rfl (hb hby at_20) rfl (XT.ii_ne_t hc23) (by decide) (by decide) ?_
      refine Stand.ldc2J X0 hx hown (mvT hZ (hw _ (List.mem_of_getElem? (i := 1) rfl))) rfl (hb hby at_36) ?_
      refine XS.lload X0.here hx rfl (hb hby at_39) rfl ?_
      refine XT.lconstV X0.here hx rfl (1 : Int64) (hb hby at_41) rfl ?_
      refine XS.lsub X0.here hx rfl (hb hby at_42) rfl ?_
      refine XS.lmul X0.here hx rfl (hb hby at_43) rfl ?_
      exact cont
    exact K4 ((2 : Int64) * (v3 - (1 : Int64))) (by simp only [if_neg hc23])
set_option maxRecDepth 65536 in
set_option maxHeartbeats 40000000 in
theorem comes_1 {Post : Tables → Env → Array Value → State → Outcome → State → Prop} (hpost : ∀ tb e args s v u, (limb_1_1.after args s (.returned v) u = true ∧ limb_1_2.after args s (.returned v) u = true ∧ True) → FrameEnd s (.returned v) u (Jvm.fieldLocs frame_1_writes args s ++ Jvm.arrayLocs frame_1_arrays args s ++ Jvm.staticLocs frame_1_statics s) 0 0 → Post tb e args s (.returned v) u) :
    ArmFor flags0 classFile x code maxLocals ret World_1 tables_1 room_1 Calls_1 rest_1 Pre_1 Post := by
  intro l hfl _ _ p e ha hc hk s m args below hf hA hF happ hP
  obtain ⟨hcalls, hrest, hpre⟩ := hP
  obtain ⟨-, -, -, hnamed, -, -, -, hat⟩ := (Spec.applies_iff hf).mp happ
  obtain ⟨hg, hn⟩ := and_e (Cond.before_iff.mp (show (Jvm.Cond.and given_1 narrow_1).before args s = true from hpre))
  obtain ⟨g0, gr0⟩ := and_e hg
  obtain ⟨ga0, gr1⟩ := and_e gr0
  obtain ⟨w0, w1, rfl⟩ : ∃ w0 w1 : Value, args = #[w0, w1] := by
    have hs : args.size = 2 := by simpa [Cond.value, given_1] using g0
    obtain ⟨L⟩ := args
    match L, hs with
    | [w0, w1], _ => exact ⟨w0, w1, rfl⟩
  have hw := fun d (hd : d ∈ tables_1) => atoms_spec (ws := Jvm.Cond.code x code maxLocals ret :: tables_1) hat d (List.mem_cons_of_mem _ hd)
  obtain ⟨i0, ei0⟩ := is_v ga0
  obtain rfl : w0 = (.int i0) := Option.some.inj ei0
  obtain ⟨i1, ei1⟩ := is_v gr1
  obtain rfl : w1 = (.int i1) := Option.some.inj ei1
  obtain ⟨n, o, h1, h2, h3, _, L, rfl, ⟨rfl, N⟩, hq⟩ := rm0 l s _ hw tables_1 i0 i1 s.heap s.heap.size (Nat.le_refl _) p e ha hc hk s m _ below hf ((Spec.applies_iff_loose hf).mp happ).1 ⟨rfl, State.Warmed39.refl s, rfl⟩ trivial
  refine ⟨n, _, h1, h2, h3, hpost _ _ _ _ _ _ ⟨Cond.after_iff.mpr rfl, Cond.after_iff.mpr (eq_i res_at (Term.int_eval (1)) rfl), trivial⟩ ⟨hq.1, hq.2.1, (hq.2.2.sift fun y hy => Or.inr (N y hy)).mono (by decide) (by decide)⟩⟩
theorem main_1_1 : Claimed_1_1 := comes_1 fun _ _ _ _ _ _ h hF => ⟨h.1, hF⟩
theorem main_1_2 : Claimed_1_2 := comes_1 fun _ _ _ _ _ _ h hF => ⟨h.2.1, hF⟩
end Jvm.Pilot.@@N@@
namespace Jvm.Pilot.@@N@@
open Jvm Jvm.ClassFile Sem Op Lib Jvm.Free Jvm.Stand Jvm.Pilot.@@N@@.Jvm.D
/-! MADE BY PROGRAM (witnessworld.py) out of the Statement's table words and the real class files: 9 classes; the members and pool entries that the words name. The judged class is class 1, her method 1. -/
namespace start1
open Jvm.ClassFile
def u (s : String) : CpInfo := .utf8 (stringToUtf16 s)
/-- a pool by its gaps: so many unusable entries, then the entry; so many at the end -/
def gap : Nat → List CpInfo → List CpInfo
  | 0, r => r
  | n + 1, r => .unusable :: gap n r
def poolList (es : List (Nat × CpInfo)) (last : Nat) : List CpInfo := es.foldr (fun e r => gap e.1 (e.2 :: r)) (gap last [])
def pool (es : List (Nat × CpInfo)) (last : Nat) : Array CpInfo := ⟨poolList es last⟩
def fileOf (pool : Array CpInfo) (this : Nat) (attrs : Array Attribute := #[]) (ms : Array MethodInfo := #[]) (fl : Nat := 33) (sup : Nat := 0) (ifs : Array Nat := #[]) (fds : Array FieldInfo := #[]) : ClassFile where
  minorVersion := 0
  majorVersion := 65
  constantPool := pool
  accessFlags := fl
  thisClass := this
  superClass := sup
  interfaces := ifs
  fields := fds
  methods := ms
  attributes := attrs
def plain (name : String) (sup : Option ClassId) : Class where
  name := name
  kind := .ordinary
  loader := none
  accessFlags := 33
  super := sup
  interfaces := #[]
  cf := none
  fields := #[]
  methods := #[]
  instanceTypes := #[]
  staticTypes := #[]
  resolved := #[]
  callSites := []
  init := .initialized
  statics := none
  mirror := none

def pool0 : Array CpInfo := pool [(5, u "<init>"), (0, u "()V"), (1, .class_ 10), (1, u "java/lang/Object")] 113

def k0m0 : Method := { name := "<init>", desc := "()V", sig := { parameters := [], returnType := none }, accessFlags := 1, code := none }
/-- java/lang/Object -/
def k0 : Class := { plain "java/lang/Object" none with
  accessFlags := 33
  interfaces := #[]
  cf := some (fileOf pool0 8 #[] #[{ accessFlags := 1, nameIndex := 5, descriptorIndex := 6, attributes := #[] }] 33 0 #[] #[])
  fields := #[]
  methods := #[k0m0]
  instanceTypes := #[]
  staticTypes := #[]
  resolved := Array.replicate 124 none
  statics := none }

def pool1 : Array CpInfo := pool [(2, .class_ 4), (1, u "java/lang/Object"), (0, u "<init>"), (0, u "()V"), (0, .long 3), (1, .long 2), (1, .long 2147483646), (1, .integer 2147483647), (0, .methodref 15 16), (0, .class_ 17), (0, .nameAndType 18 19), (0, u "com/example/cyclecut/cyclecut/cubic/CubicGraphs"), (0, u "hasCyclicEdgeCut"), (0, u "(II)Z"), (0, .class_ 21), (0, u "com/example/cyclecut/cyclecut/cubic/CubicGraphsHasCyclicEdgeCutPinLaw"), (2, u "law")] 3

def k1m0 : Method := { name := "<init>", desc := "()V", sig := { parameters := [], returnType := none }, accessFlags := 2, code := none }
def k1c1 : Code := { maxStack := 6, maxLocals := 16, code := code, exceptionTable := #[], attributes := #[] }
def k1m1 : Method := { name := "law", desc := "(II)Z", sig := { parameters := [.int, .int], returnType := some .boolean }, accessFlags := 9, code := some k1c1 }
/-- com/example/cyclecut/cyclecut/cubic/CubicGraphsHasCyclicEdgeCutPinLaw -/
def k1 : Class := { plain "com/example/cyclecut/cyclecut/cubic/CubicGraphsHasCyclicEdgeCutPinLaw" (some 0) with
  accessFlags := 49
  interfaces := #[]
  cf := some (fileOf pool1 20 #[] #[{ accessFlags := 2, nameIndex := 5, descriptorIndex := 6, attributes := #[] }, { accessFlags := 9, nameIndex := 24, descriptorIndex := 19, attributes := #[] }] 49 2 #[] #[])
  fields := #[]
  methods := #[k1m0, k1m1]
  instanceTypes := #[]
  staticTypes := #[]
  resolved := Array.replicate 28 none
  statics := none }

def pool2 : Array CpInfo := pool [(2, .class_ 4), (1, u "java/lang/Object"), (0, u "<init>"), (0, u "()V"), (30, .class_ 38), (0, u "com/example/cyclecut/cyclecut/cubic/CubicGraphs"), (23, u "DEGREE"), (0, u "I"), (8, u "hasCyclicEdgeCut"), (0, u "(II)Z")] 23

def k2m0 : Method := { name := "<init>", desc := "()V", sig := { parameters := [], returnType := none }, accessFlags := 2, code := none }
def k2c1 : Code := { maxStack := 3, maxLocals := 2, code := prog_5_method_3_code, exceptionTable := #[], attributes := #[] }
def k2m1 : Method := { name := "hasCyclicEdgeCut", desc := "(II)Z", sig := { parameters := [.int, .int], returnType := some .boolean }, accessFlags := 9, code := some k2c1 }
/-- com/example/cyclecut/cyclecut/cubic/CubicGraphs -/
def k2 : Class := { plain "com/example/cyclecut/cyclecut/cubic/CubicGraphs" (some 0) with
  accessFlags := 49
  interfaces := #[]
  cf := some (fileOf pool2 37 #[] #[{ accessFlags := 2, nameIndex := 5, descriptorIndex := 6, attributes := #[] }, { accessFlags := 9, nameIndex := 72, descriptorIndex := 73, attributes := #[] }] 49 2 #[] #[{ accessFlags := 25, nameIndex := 62, descriptorIndex := 63, attributes := #[] }])
  fields := #[{ name := "DEGREE", type := .int, accessFlags := 25, slot := 0, constantValue := 0 }]
  methods := #[k2m0, k2m1]
  instanceTypes := #[]
  staticTypes := #[.int]
  resolved := Array.replicate 97 none
  statics := none }

def pool3 : Array CpInfo := pool [(1, u "java/lang/Cloneable"), (0, .class_ 1), (0, u "java/lang/Object"), (0, .class_ 3)] 3

/-- java/lang/Cloneable -/
def k3 : Class := { plain "java/lang/Cloneable" (some 0) with
  accessFlags := 1537
  interfaces := #[]
  cf := some (fileOf pool3 2 #[] #[] 1537 4 #[] #[])
  fields := #[]
  methods := #[]
  instanceTypes := #[]
  staticTypes := #[]
  resolved := Array.replicate 8 none
  statics := none }

def pool4 : Array CpInfo := pool [(1, u "java/io/Serializable"), (0, .class_ 1), (0, u "java/lang/Object"), (0, .class_ 3)] 3

/-- java/io/Serializable -/
def k4 : Class := { plain "java/io/Serializable" (some 0) with
  accessFlags := 1537
  interfaces := #[]
  cf := some (fileOf pool4 2 #[] #[] 1537 4 #[] #[])
  fields := #[]
  methods := #[]
  instanceTypes := #[]
  staticTypes := #[]
  resolved := Array.replicate 8 none
  statics := none }

/-- the primitive byte -/
def k5 : Class := { plain "byte" none with kind := .primitive 'B', accessFlags := 0x411 }
/-- [B -/
def k6 : Class := { plain "[B" (some 0) with kind := .array 5 .byte, interfaces := #[3, 4], accessFlags := 1041 }

/-- the primitive int -/
def k7 : Class := { plain "int" none with kind := .primitive 'I', accessFlags := 0x411 }
/-- [I -/
def k8 : Class := { plain "[I" (some 0) with kind := .array 7 .int, interfaces := #[3, 4], accessFlags := 1041 }

def heap : Heap := #[]
def classes : Array Class := #[k0, k1, k2, k3, k4, k5, k6, k7, k8]
def interned : List (Array UInt16 × Addr) := []
def slotsUsed : Nat := 0
def theMethod : MethodId := ⟨1, 1⟩
def args0 : Array Value := #[.int 5, .int 300]
def aboutOver (below : List Frame) : State where
  vm := { classes := classes, interned := interned.toArray }
  heap := heap
  slotsUsed := slotsUsed
  threads := #[{ frames := .invoking theMethod args0 :: below }]
def below0 : List Frame := [.native { method := ⟨0, 0⟩, args := #[] }]
def about1 : State := aboutOver below0
def p0 : Program := .bare "" "" ""
def e0 : Env := launch0.env 0 0 0
theorem w_frames : about1.frames = Frame.invoking theMethod args0 :: below0 := rfl
set_option maxRecDepth 65536 in
theorem w_args : argsFit about1.vm theMethod args0 = true := by decide +kernel
set_option maxRecDepth 65536 in
theorem w_heap : heapFits about1 = true := by decide +kernel
set_option maxRecDepth 65536 in
theorem w_runnable : about1.curStatus? = some .runnable := by decide +kernel
set_option maxRecDepth 65536 in
theorem w_alone : about1.alone = true := by decide +kernel
set_option maxRecDepth 65536 in
theorem w_named : about1.methodNamed? x = some theMethod := by decide +kernel
set_option maxRecDepth 65536 in
theorem w_hears : about1.hears theMethod below0 = true := by decide +kernel
set_option maxRecDepth 65536 in
theorem w_ripe : about1.ripe theMethod args0 below0 = true := by decide +kernel
theorem w_running : about1.status = .running := rfl
set_option maxRecDepth 65536 in
theorem w_room : about1.hasRoom e0.platform room_1 = true :=
  launch0.hasRoom_least _ room_1 (by decide +kernel) (by decide +kernel) (by decide +kernel) (by decide +kernel) (by decide +kernel) (by decide +kernel)
theorem allAtoms_all (ts : List Jvm.Cond) (a : Array Jvm.Value) (st : Jvm.State) : (allAtoms ts).before a st = ts.all (fun c => c.before a st) := by
  induction ts with
  | nil => rfl
  | cons c t ih =>
    show (Jvm.Cond.and c (allAtoms t)).before a st = _
    rw [Jvm.Cond.before_and, ih, List.all_cons]
def words1 : List Jvm.Cond := Jvm.Cond.code x code maxLocals ret :: tables_1
/-- a 'code' word, met by the world's own term for the bytes: nothing is compared byte by byte -/
theorem code_word {y : MethodName} {bytes : ByteArray} {mx : Nat} {rt : Option FieldType} {a : Array Value} {s : State} {m : MethodId} {meth : Method} {c : Code} (h1 : s.methodNamed? y = some m) (h2 : s.vm.method? m = some meth) (h3 : meth.code = some c) (h4 : c.code = bytes)
    (h5 : (c.maxLocals == mx && c.exceptionTable.isEmpty && decide (c.maxStack ≤ mostOperands) && decide (meth.sig.returnType = rt) && !meth.locks && decide (parseMethodDescriptor y.desc = some meth.sig)) = true) : (Jvm.Cond.code y bytes mx rt).before a s = true := by
  simp only [Bool.and_eq_true, beq_iff_eq, Bool.not_eq_true', decide_eq_true_eq] at h5
  obtain ⟨⟨⟨⟨⟨g1, g2⟩, g3⟩, g4⟩, g5⟩, g6⟩ := h5
  simp [Cond.before, Cond.holds, Cond.value, h1, h2, h3, h4, g1, g2, g3, g4, g5, g6]
def isCode : Jvm.Cond → Bool
  | .code _ _ _ _ => true
  | _ => false
theorem all_split {L : List Jvm.Cond} {P : Jvm.Cond → Bool} (h1 : L.all (fun c => isCode c || P c) = true) (h2 : ∀ c ∈ L.filter isCode, P c = true) : L.all P = true := by
  refine List.all_eq_true.mpr fun c hc => ?_
  have h := List.all_eq_true.mp h1 c hc
  rcases Bool.eq_false_or_eq_true (isCode c) with hi | hi
  · exact h2 c (List.mem_filter.mpr ⟨hc, hi⟩)
  · simpa [hi] using h
set_option maxRecDepth 65536 in
theorem w_c0 : (Jvm.Cond.code x code maxLocals ret).before args0 about1 = true := code_word (m := ⟨1, 1⟩) (meth := k1m1) (c := k1c1) (by decide +kernel) rfl rfl rfl (by decide +kernel)
set_option maxRecDepth 65536 in
theorem w_c1 : (Jvm.Cond.code ({ cls := "com/example/cyclecut/cyclecut/cubic/CubicGraphs", name := "hasCyclicEdgeCut", desc := "(II)Z" } : Jvm.MethodName) prog_5_method_3_code (2 : Nat) (Option.some Jvm.ClassFile.FieldType.boolean)).before args0 about1 = true := code_word (m := ⟨2, 1⟩) (meth := k2m1) (c := k2c1) (by decide +kernel) rfl rfl rfl (by decide +kernel)
def codes1 : List Jvm.Cond := [Jvm.Cond.code x code maxLocals ret, Jvm.Cond.code ({ cls := "com/example/cyclecut/cyclecut/cubic/CubicGraphs", name := "hasCyclicEdgeCut", desc := "(II)Z" } : Jvm.MethodName) prog_5_method_3_code (2 : Nat) (Option.some Jvm.ClassFile.FieldType.boolean)]
set_option maxRecDepth 65536 in
theorem codes_eq : words1.filter isCode = codes1 := rfl
theorem w_codes : ∀ c ∈ words1.filter isCode, c.before args0 about1 = true := by
  rw [codes_eq]
  intro c hc
  simp only [codes1, List.mem_cons, List.not_mem_nil, or_false] at hc
  rcases hc with rfl | rfl
  · exact w_c0
  · exact w_c1
set_option maxRecDepth 65536 in
theorem w_t1 : words1.all (fun c => isCode c || c.before args0 about1) = true := by decide +kernel
theorem w_tables : (allAtoms (Jvm.Cond.code x code maxLocals ret :: tables_1)).before args0 about1 = true := by
  rw [allAtoms_all]
  show words1.all (fun c => c.before args0 about1) = true
  refine all_split ?_ w_codes
  rw [w_t1]
set_option maxRecDepth 65536 in
theorem w_case : (Jvm.Cond.and given_1 narrow_1).before args0 about1 = true := by decide +kernel
theorem w_applies : (headSpec (Jvm.Cond.code x code maxLocals ret :: tables_1) room_1).applies x e0.platform about1 = true :=
  (Spec.applies_iff w_frames).mpr ⟨w_running, w_runnable, w_alone, w_named, w_hears, w_ripe, w_room, w_tables⟩
theorem atStart : AtStart classFile x code maxLocals ret World_1 tables_1 room_1 Calls_1 rest_1 Pre_1 launch0 p0 e0 about1 theMethod args0 below0 :=
  ⟨lists_1, trivial, launch0.admits_env _ _ _, launch0.least_env, fairChoices_fair.cas, fairChoices_fair.clock, w_frames, w_args, w_heap, w_applies, trivial, trivial, w_case⟩
end start1
theorem witness_1 : WitnessClaimed_1 := ⟨start1.p0, start1.e0, start1.about1, start1.theMethod, start1.args0, start1.below0, start1.atStart⟩
end Jvm.Pilot.@@N@@
