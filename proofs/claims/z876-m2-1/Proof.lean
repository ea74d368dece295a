import JvmDerived
import JvmDerived.Pilot.@@N@@Statement
import JvmDerived.Pilot.@@N@@Code
set_option linter.unusedVariables false
set_option linter.unusedSimpArgs false
namespace Jvm.RoadKit
open Sem ClassFile Op Lib Jvm.Stand Jvm.Free Jvm.LawKit
section New
variable {p : Program} {l : Launch} {e : Env} {R : Room} {s : State} {m : MethodId} {args : Array Value} {below : List Frame} {meth : Method} {c : Code} {T : State} {locs : List Loc} {cells slots : Nat}
theorem retI (X : Stand p l e R s m args below meth c T locs cells slots) (hx : p.tables.exec = Jvm.exec) {pc : Nat} {Ls : Array Slot} {z : Int32} {rest : List Value} (hret : meth.sig.returnType = some .int) (hd : decode c.code pc = .ok (.ireturn, 1)) {fs : List Frame}
    (hl : ∀ (f : JFrame) (acts : List Action), f.method = m → f.locked = none → f.entered = [] → (doReturn e (T.setTop f) acts (some (.int z))).1 = T.setFrames fs) : Steps p.tables e below (T.setTop (mkF m pc Ls (.int z :: rest))) (T.setFrames fs) := by
  have hm' : T.vm.method? m = some meth := X.method'
  have hn : narrow .int (.int z) = .int z := rfl
  show Steps p.tables e below (T.setTop { method := m, pc := pc, locals := Ls, stack := _ :: rest, locked := none }) _
  jvm_step X.here [X.here.top, hx, hd, hm', hret, hn]
  first | (intro acts; rw [hl _ acts rfl rfl rfl]) | rw [hl _ _ rfl rfl rfl]
  exact Steps.refl _
end New
end Jvm.RoadKit
namespace Jvm.Pilot.@@N@@
open Jvm Jvm.ClassFile Sem Op Lib Jvm.Free Jvm.Stand Jvm.LawKit Jvm.RoadKit Bundle Jvm.Pilot.@@N@@.Jvm.D
/-! my own layer: all goals of a walk have one shape -/
section Own
variable {p : Program} {l : Launch} {e : Env} {R : Room} {s : State} {m : MethodId} {args : Array Value} {below : List Frame} {meth : Method} {c : Code} {T : State} {locs : List Loc} {cells slots : Nat} {Q : Option Value → Heap → List Loc → Prop} {nc ns : Nat} {A B : State}
/-- from A the method comes to its end, with Q of what it returns, of the heap and of the places written -/
def own_Go (p : Program) (e : Env) (below : List Frame) (s : State) (Q : Option Value → Heap → List Loc → Prop) (nc ns : Nat) (A : State) : Prop :=
  ∃ s₂ o, Steps p.tables e below A s₂ ∧ s₂.status = .running ∧ Ended s₂ below o ∧ ∃ v L, o = .returned v ∧ Q v s₂.heap L ∧ FrameEnd s o s₂ L nc ns
theorem own_go (k : ∀ t, Steps p.tables e below B t → Steps p.tables e below A t) (h : own_Go p e below s Q nc ns B) : own_Go p e below s Q nc ns A := by
  obtain ⟨t, o, h1, h2⟩ := h
  exact ⟨t, o, k t h1, h2⟩
theorem own_end (X : Stand p l e R s m args below meth c T locs cells slots) {v : Option Value} (hv : meth.sig.returnType = none → v = none) (hlk : meth.locks = false) (hq : Q v T.heap locs) (hc : cells ≤ nc) (hs : slots ≤ ns)
    (hst : ∀ fs, (∀ (f : JFrame) (acts : List Action), f.method = m → f.locked = none → f.entered = [] → (doReturn e (T.setTop f) acts v).1 = T.setFrames fs) → Steps p.tables e below A (T.setFrames fs)) : own_Go p e below s Q nc ns A := by
  obtain ⟨fs, hr, hrun, hended, hW, hsame⟩ := X.leave (v := v) hv hlk
  exact ⟨_, _, hst fs hr, hrun, hended, v, locs, rfl, hq, ⟨_, rfl⟩, hW, hsame.mono hc hs⟩
theorem own_wide {cells' slots' : Nat} (X : Stand p l e R s m args below meth c T locs cells slots) (hc : cells ≤ cells') (hs : slots ≤ slots') : Stand p l e R s m args below meth c T locs cells' slots' :=
  { X with same := X.same.mono hc hs }
theorem own_lrem {tb : Tables} [Ours tb] {target : State} {g : JFrame} (h : At T m c below) (hx : tb.exec = Jvm.exec) (hg : g.method = m) {x y : Int64} {rest : List Value} (hd : decode c.code g.pc = .ok (.lrem, 1)) (hs : g.stack = .long y :: .long x :: rest) (hy : y ≠ 0)
    (hr : Steps tb e below (T.setTop { g with pc := g.pc + 1, stack := .long (x % y) :: rest }) target) : Steps tb e below (T.setTop g) target :=
  XS.lrem h hx hg hd hs hy (by rw [lrem_mod]; exact hr)
end Own
section Own2
variable {Z s : State} {a0 args : Array Value} {h : Heap} {a b : Addr} {C : String} {c : Cell} {ty : FieldType}
theorem own_selP {y : MethodName} {n : Nat} (hZ : Z.Warmed39 s.vm) (wi : (Jvm.Cond.instantiable y.cls n).before a0 Z = true) (w2 : (Jvm.Cond.instanceMethod y).before a0 Z = true) (w3 : (Jvm.Cond.privateMethod y).before a0 Z = true)
    (hy : y.cls ≠ "java/lang/invoke/MethodHandle" ∧ y.cls ≠ "java/lang/invoke/VarHandle" := by decide) : (Jvm.Cond.selects y.cls y y).before args s = true := by
  have wi' : (Jvm.Cond.instantiable y.cls n).before args s = true := mvT hZ wi
  obtain ⟨c, k, h1, h2, -, h4, -⟩ := Cond.instantiable_spec wi'
  have h5 : k.isInterface = false := by
    cases hk : k.isInterface
    · rfl
    · rw [hk] at h4; simp at h4
  exact selects_self_of_private h1 h2 h5 (Cond.privateMethod_at (mvP hZ w3 (args := #[]))) (mvT hZ w2) hy
theorem own_neA {n : Nat} (F : Exa Z h a C) (wi : (Jvm.Cond.instantiable C n).before a0 Z = true) (G : ∃ c, Arr Z h b c ty) : a ≠ b := by
  obtain ⟨c, G⟩ := G
  exact ne_arr F wi G
end Own2
/-! small naturals as ints -/
theorem own_toI {n : Nat} (h : n < 2147483648) : (Int32.ofNat n).toInt = n := Int32.toInt_ofNat_of_lt h
theorem own_toN {n : Nat} (h : n < 2147483648) : (Int32.ofNat n).toNatClampNeg = n := by
  rw [Int32.toNatClampNeg, own_toI h]; omega
theorem own_one {i : Nat} : Int32.ofNat i + (1 : Int32) = Int32.ofNat (i + 1) := (Int32.ofNat_add i 1).symm
theorem own_inb {j : Int32} {n : Nat} (h0 : ¬ j < 0) (h : j < Int32.ofNat n) (hn : n < 2147483648) : ¬ j < 0 ∧ j.toNatClampNeg < n := by
  refine ⟨h0, ?_⟩
  rw [Int32.lt_iff_toInt_lt, own_toI hn] at h
  rw [Int32.lt_iff_toInt_lt] at h0
  have e0 : (0 : Int32).toInt = 0 := rfl
  rw [Int32.toNatClampNeg]; omega
theorem own_inN {i n : Nat} (h : i < n) (hn : n < 2147483648) : ¬ Int32.ofNat i < 0 ∧ (Int32.ofNat i).toNatClampNeg < n := by
  rw [own_toN (by omega), Int32.lt_iff_toInt_lt, own_toI (by omega)]
  have e0 : (0 : Int32).toInt = 0 := rfl
  omega
theorem own_ofNat_lt {i n : Nat} (h : Int32.ofNat i < Int32.ofNat n) (hn : n < 2147483648) (hi : i ≤ n) : i < n := by
  rw [Int32.lt_iff_toInt_lt, own_toI hn, own_toI (by omega)] at h; omega
theorem own_ofNat_nlt {i n : Nat} (h : ¬ Int32.ofNat i < Int32.ofNat n) (hn : n < 2147483648) (hi : i ≤ n) : n ≤ i := by
  rw [Int32.lt_iff_toInt_lt, own_toI hn, own_toI (by omega)] at h; omega
theorem own_drop (vs : List Int32) {i : Nat} (h : i < vs.length) : vs.drop i = vs.getD i 0 :: vs.drop (i + 1) := by
  rw [List.drop_eq_getElem_cons h, List.getD_eq_getElem?_getD, List.getElem?_eq_getElem h]; rfl
theorem own_ofNat_inj {i n : Nat} (h : Int32.ofNat i = Int32.ofNat n) (hn : n < 2147483648) (hi : i ≤ n) : i = n := by
  have q := congrArg Int32.toInt h
  rw [own_toI hn, own_toI (by omega)] at q; omega

/-! byte arrays as lists of ints, read only -/
section OwnBA
variable {p : Program} {l : Launch} {e : Env} {R : Room} {s : State} {m : MethodId} {args : Array Value} {below : List Frame} {meth : Method} {c : Code} {T : State} {locs : List Loc} {cells slots : Nat} {Z : State} {a0 : Array Value} {h h' : Heap} {a b : Addr} {ws : List Addr} {sl : Nat} {v : Value} {vs : List Int32}
def own_BA (Z : State) (h : Heap) (a : Addr) (vs : List Int32) : Prop := ∃ c : Cell, Arr Z h a c .byte ∧ c.slots.toList = vs.map Value.int ∧ vs.length < 2147483648
theorem own_BA.lt (F : own_BA Z h a vs) : a < h.size := by obtain ⟨c, A, -⟩ := F; exact A.lt
theorem own_BA.arr (F : own_BA Z h a vs) : ∃ c, Arr Z h a c .byte := by obtain ⟨c, A, -⟩ := F; exact ⟨c, A⟩
theorem own_BA.ext (F : own_BA Z h a vs) (E : Ext h h') : own_BA Z h' a vs := by obtain ⟨c, A, r⟩ := F; exact ⟨c, A.ext E, r⟩
theorem own_BA.keep (F : own_BA Z h a vs) (K : Keep h h' ws) (q : a ∉ ws) : own_BA Z h' a vs := by obtain ⟨c, A, r⟩ := F; exact ⟨c, ⟨K.2.1 a c A.1 q, A.2⟩, r⟩
theorem own_BA.small (F : own_BA Z h a vs) : vs.length < 2147483648 := by obtain ⟨c, A, q, r⟩ := F; exact r
theorem own_BA_in {c : Cell} {j : Int32} (S : c.slots.toList = vs.map Value.int) (hj : ¬ j < 0 ∧ j.toNatClampNeg < vs.length) : ¬ (j < 0 ∨ c.slots.size ≤ j.toNatClampNeg) := by
  have e := congrArg List.length S
  rw [List.length_map, Array.length_toList] at e
  rintro (q | q)
  · exact hj.1 q
  · have := hj.2; omega
theorem own_BA_of {k : ClassId} {z : Int32} {ws : List Value} (A : Arv Z h a k .byte z ws (.int 0)) (hw : ws = vs.map Value.int) (hl : z.toNatClampNeg = vs.length) (hs : vs.length < 2147483648) : own_BA Z h a vs := by
  obtain ⟨c, Ar, -, hz, -, H, -⟩ := A
  refine ⟨c, Ar, ?_, hs⟩
  apply List.ext_getElem?
  intro i
  by_cases q : i < c.slots.size
  · have e := H i q
    rw [Array.getElem?_toList, e, hw, List.getD_eq_getElem?_getD, List.getElem?_map, List.getElem?_eq_getElem (by omega)]; rfl
  · rw [List.getElem?_eq_none (by rw [Array.length_toList]; omega), List.getElem?_eq_none (by rw [List.length_map]; omega)]
theorem own_ldBA (X : Stand p l e R s m args below meth c T locs cells slots) (hx : p.tables.exec = Jvm.exec) (hZ : Z.Warmed39 s.vm) (eT : T.heap = h) (A : own_BA Z h a vs) {j : Int32} (hj : ¬ j < 0 ∧ j.toNatClampNeg < vs.length)
    {g : JFrame} (hg : g.method = m) {rest : List Value} (hs : g.stack = .int j :: .ref a :: rest) (hd : decode c.code g.pc = .ok (.baload, 1)) {target : State}
    (hr : Steps p.tables e below (T.setTop { g with pc := g.pc + 1, stack := Value.int (vs.getD j.toNatClampNeg 0) :: rest }) target) : Steps p.tables e below (T.setTop g) target := by
  obtain ⟨cl, Ar, S, -⟩ := A
  refine X.baloadBytes hx (j := j) (v := Value.int (vs.getD j.toNatClampNeg 0)) (by rw [eT]; exact Ar.1) (State.isArrayOf_alike hZ.alike Ar.2.1) Ar.2.2 (own_BA_in S hj) ?_ (g := g) hg hs hd _ hr
  rw [← Array.getElem?_toList, S, List.getElem?_map, List.getD_eq_getElem?_getD, List.getElem?_eq_getElem hj.2]
  rfl
theorem own_lenBA (X : Stand p l e R s m args below meth c T locs cells slots) (hx : p.tables.exec = Jvm.exec) (hZ : Z.Warmed39 s.vm) (eT : T.heap = h) (A : own_BA Z h a vs)
    {g : JFrame} (hg : g.method = m) {rest : List Value} (hs : g.stack = .ref a :: rest) (hd : decode c.code g.pc = .ok (.arraylength, 1)) {target : State}
    (hr : Steps p.tables e below (T.setTop { g with pc := g.pc + 1, stack := .int (Int32.ofNat vs.length) :: rest }) target) : Steps p.tables e below (T.setTop g) target := by
  obtain ⟨cl, Ar, S, -⟩ := A
  refine X.arraylength hx (by rw [eT]; exact Ar.1) (State.isArrayOf_alike hZ.alike Ar.2.1) (g := g) hg hs hd _ ?_
  have e := congrArg List.length S
  rw [List.length_map, Array.length_toList] at e
  rw [e]; exact hr
end OwnBA
/-! walks that may load a String constant: the wide end -/
section OwnW
variable {p : Program} {l : Launch} {e : Env} {R : Room} {s : State} {m : MethodId} {args : Array Value} {below : List Frame} {meth : Method} {c : Code} {T : State} {locs : List Loc} {cells slots : Nat} {Q : Option Value → Heap → List Loc → Prop} {nc ns : Nat} {A B : State}
def own_GoW (p : Program) (e : Env) (below : List Frame) (s : State) (Q : Option Value → Heap → List Loc → Prop) (nc ns : Nat) (A : State) : Prop :=
  ∃ s₂ o, Steps p.tables e below A s₂ ∧ s₂.status = .running ∧ Ended s₂ below o ∧ ∃ v L, o = .returned v ∧ Q v s₂.heap L ∧ ReturnedEndW s o s₂ L nc ns
theorem own_goW (k : ∀ t, Steps p.tables e below B t → Steps p.tables e below A t) (h : own_GoW p e below s Q nc ns B) : own_GoW p e below s Q nc ns A := by
  obtain ⟨t, o, h1, h2⟩ := h
  exact ⟨t, o, k t h1, h2⟩
theorem own_endW {vm0 : Vm} {k0 : Nat} (X : Stand p l e R (s.setVm vm0) m args below meth c T locs cells slots) (hS : s.Since vm0 k0) (hk : k0 ≤ T.heap.size) {v : Option Value} (hv : meth.sig.returnType = none → v = none) (hlk : meth.locks = false) (hq : Q v T.heap locs) (hc : cells ≤ nc) (hs : slots ≤ ns)
    (hst : ∀ fs, (∀ (f : JFrame) (acts : List Action), f.method = m → f.locked = none → f.entered = [] → (doReturn e (T.setTop f) acts v).1 = T.setFrames fs) → Steps p.tables e below A (T.setFrames fs)) : own_GoW p e below s Q nc ns A := by
  obtain ⟨fs, hr, hrun, hended, e1, e2, e3, e4⟩ := X.leaveW hS hk (v := v) hv hlk
  exact ⟨_, _, hst fs hr, hrun, hended, v, locs, rfl, hq, e1, e2, e3, e4.mono hc hs⟩
end OwnW
def own_ci (p1 : Int32) (p2 : Int32) : Int32 := p1
def Q_rm5_n (Z : State) (p1 : Int32) (p2 : Int32) (h0 : Heap) (n0 : Nat) (v : Option Value) (h : Heap) (L : List Loc) : Prop := v = some (.int (own_ci p1 p2)) ∧ Fr n0 L ∧ h = h0
theorem own_pn0 : plainName "jdk/internal/util/Preconditions" = true := by first | (simp [plainName, overriddenIn]; done) | decide +kernel
theorem d5_0 : decode jdk_41_method_11_code 0 = .ok (.iload_n 0, 1) := by decide +kernel
theorem d5_1 : decode jdk_41_method_11_code 1 = .ok (.ifCond .lt 8, 3) := by decide +kernel
theorem d5_4 : decode jdk_41_method_11_code 4 = .ok (.iload_n 0, 1) := by decide +kernel
theorem d5_5 : decode jdk_41_method_11_code 5 = .ok (.iload_n 1, 1) := by decide +kernel
theorem d5_6 : decode jdk_41_method_11_code 6 = .ok (.if_icmp .lt 10, 3) := by decide +kernel
theorem d5_16 : decode jdk_41_method_11_code 16 = .ok (.iload_n 0, 1) := by decide +kernel
theorem d5_17 : decode jdk_41_method_11_code 17 = .ok (.ireturn, 1) := by decide +kernel
set_option maxRecDepth 65536 in
set_option maxHeartbeats 40000000 in
theorem rm5_n (l : Launch) (Z : State) (a0 : Array Value) (hw : ∀ d ∈ tables_1, d.before a0 Z = true) (ws : List Jvm.Cond) (p1 : Int32) (p2 : Int32) (h0 : Heap) (n0 : Nat) (Z0 : n0 ≤ h0.size) (q1 : ¬ p1 < 0) (q2 : p1 < p2) :
    MetFree l (⟨"jdk/internal/util/Preconditions", "checkIndex", "(IILjava/util/function/BiFunction;)I"⟩ : MethodName) (head1 (Jvm.Cond.code (⟨"jdk/internal/util/Preconditions", "checkIndex", "(IILjava/util/function/BiFunction;)I"⟩ : MethodName) jdk_41_method_11_code 3 (some .int) :: ws) ({ frames := 0, cells := 0, slots := 0, locals := 0 } : Room)) (fun aa U => aa = #[(.int p1), (.int p2), .null] ∧ Z.Warmed39 U.vm ∧ U.heap = h0) (fun _ _ _ _ _ => True) (fun _ U o U' => ∃ v L, o = .returned v ∧ Q_rm5_n Z p1 p2 h0 n0 v U'.heap L ∧ FrameEnd U o U' L ({ frames := 0, cells := 0, slots := 0, locals := 0 } : Room).cells ({ frames := 0, cells := 0, slots := 0, locals := 0 } : Room).slots) := by
  refine MetFree.of_bodySF (plainFor_of_name own_pn0) hisR ?_
  intro p e s m args below meth c s₁ Bd hml0 hP hK
  obtain ⟨rfl, hZ, hh⟩ := hP
  have hx := Bd.exec
  have hby := Bd.bytes
  have hml : c.maxLocals = 3 := hml0
  have hlk : meth.locks = false := BodyLoose.notSynchronized Bd
  have hown : s.vm.findClass "jdk/internal/util/Preconditions" = some m.cls := findClass_of_methodNamed Bd.named
  have hnm := (name_of_methodNamed Bd.named Bd.method).1
  have X0 : Stand p l e ({ frames := 0, cells := 0, slots := 0, locals := 0 } : Room) s m #[(.int p1), (.int p2), .null] below meth c s₁ [] 0 0 := Stand.of_body Bd
  have e0 : s₁.heap = h0 := by rw [← hh, Bd.state]; rfl
  have N0 := Fr.nil n0
  show own_Go p e below s (Q_rm5_n Z p1 p2 h0 n0) 0 0 (s₁.setTop (entryFrame m #[(.int p1), (.int p2), .null] 3))
  refine own_go (B := s₁.setTop (mkF m 0 #[.val (.int p1), .val (.int p2), .val .null] [])) (fun tgt cont => (XT.entry rfl).trans cont) ?_
  refine own_go (B := s₁.setTop (mkF m 17 #[.val (.int p1), .val (.int p2), .val .null] [(.int p1)])) (fun tgt cont => ?_) ?_
  · refine XS.iloadN X0.here hx rfl (hb hby d5_0) rfl ?_
    refine XS.ifNo X0.here hx rfl (hb hby d5_1) rfl (XT.i0_lt_f q1) ?_
    refine XS.iloadN X0.here hx rfl (hb hby d5_4) rfl ?_
    refine XS.iloadN X0.here hx rfl (hb hby d5_5) rfl ?_
    refine XS.icmpYes X0.here hx rfl (pc0 := 6) (pc' := 16) rfl (hb hby d5_6) rfl (XT.ii_lt_t q2) (by decide) (by decide) ?_
    refine XS.iloadN X0.here hx rfl (hb hby d5_16) rfl ?_
    exact cont
  refine own_end X0 (v := some (.int p1)) (fun h => by rw [Bd.returns] at h; cases h) hlk ?_ (by decide) (by decide) (fun fs hl => retI X0 hx Bd.returns (hb hby d5_17) hl)
  exact ⟨(by unfold own_ci; exact rfl), N0, e0⟩
def own_cj (p1 : Int32) (p2 : Int32) (p3 : Addr) : Int32 := p1
def Q_rm5_r (Z : State) (p1 : Int32) (p2 : Int32) (p3 : Addr) (h0 : Heap) (n0 : Nat) (v : Option Value) (h : Heap) (L : List Loc) : Prop := v = some (.int (own_cj p1 p2 p3)) ∧ Fr n0 L ∧ h = h0
set_option maxRecDepth 65536 in
set_option maxHeartbeats 40000000 in
theorem rm5_r (l : Launch) (Z : State) (a0 : Array Value) (hw : ∀ d ∈ tables_1, d.before a0 Z = true) (ws : List Jvm.Cond) (p1 : Int32) (p2 : Int32) (p3 : Addr) (h0 : Heap) (n0 : Nat) (Z0 : n0 ≤ h0.size) (q1 : ¬ p1 < 0) (q2 : p1 < p2) :
    MetFree l (⟨"jdk/internal/util/Preconditions", "checkIndex", "(IILjava/util/function/BiFunction;)I"⟩ : MethodName) (head1 (Jvm.Cond.code (⟨"jdk/internal/util/Preconditions", "checkIndex", "(IILjava/util/function/BiFunction;)I"⟩ : MethodName) jdk_41_method_11_code 3 (some .int) :: ws) ({ frames := 0, cells := 0, slots := 0, locals := 0 } : Room)) (fun aa U => aa = #[(.int p1), (.int p2), (.ref p3)] ∧ Z.Warmed39 U.vm ∧ U.heap = h0) (fun _ _ _ _ _ => True) (fun _ U o U' => ∃ v L, o = .returned v ∧ Q_rm5_r Z p1 p2 p3 h0 n0 v U'.heap L ∧ FrameEnd U o U' L ({ frames := 0, cells := 0, slots := 0, locals := 0 } : Room).cells ({ frames := 0, cells := 0, slots := 0, locals := 0 } : Room).slots) := by
  refine MetFree.of_bodySF (plainFor_of_name own_pn0) hisR ?_
  intro p e s m args below meth c s₁ Bd hml0 hP hK
  obtain ⟨rfl, hZ, hh⟩ := hP
  have hx := Bd.exec
  have hby := Bd.bytes
  have hml : c.maxLocals = 3 := hml0
  have hlk : meth.locks = false := BodyLoose.notSynchronized Bd
  have hown : s.vm.findClass "jdk/internal/util/Preconditions" = some m.cls := findClass_of_methodNamed Bd.named
  have hnm := (name_of_methodNamed Bd.named Bd.method).1
  have X0 : Stand p l e ({ frames := 0, cells := 0, slots := 0, locals := 0 } : Room) s m #[(.int p1), (.int p2), (.ref p3)] below meth c s₁ [] 0 0 := Stand.of_body Bd
  have e0 : s₁.heap = h0 := by rw [← hh, Bd.state]; rfl
  have N0 := Fr.nil n0
  show own_Go p e below s (Q_rm5_r Z p1 p2 p3 h0 n0) 0 0 (s₁.setTop (entryFrame m #[(.int p1), (.int p2), (.ref p3)] 3))
  refine own_go (B := s₁.setTop (mkF m 0 #[.val (.int p1), .val (.int p2), .val (.ref p3)] [])) (fun tgt cont => (XT.entry rfl).trans cont) ?_
  refine own_go (B := s₁.setTop (mkF m 17 #[.val (.int p1), .val (.int p2), .val (.ref p3)] [(.int p1)])) (fun tgt cont => ?_) ?_
  · refine XS.iloadN X0.here hx rfl (hb hby d5_0) rfl ?_
    refine XS.ifNo X0.here hx rfl (hb hby d5_1) rfl (XT.i0_lt_f q1) ?_
    refine XS.iloadN X0.here hx rfl (hb hby d5_4) rfl ?_
    refine XS.iloadN X0.here hx rfl (hb hby d5_5) rfl ?_
    refine XS.icmpYes X0.here hx rfl (pc0 := 6) (pc' := 16) rfl (hb hby d5_6) rfl (XT.ii_lt_t q2) (by decide) (by decide) ?_
    refine XS.iloadN X0.here hx rfl (hb hby d5_16) rfl ?_
    exact cont
  refine own_end X0 (v := some (.int p1)) (fun h => by rw [Bd.returns] at h; cases h) hlk ?_ (by decide) (by decide) (fun fs hl => retI X0 hx Bd.returns (hb hby d5_17) hl)
  exact ⟨(by unfold own_cj; exact rfl), N0, e0⟩
def Q_rm4 (Z : State) (p1 : Int32) (p2 : Int32) (fm : Value) (h0 : Heap) (n0 : Nat) (v : Option Value) (h : Heap) (L : List Loc) : Prop := v = none ∧ Fr n0 L ∧ h = h0
theorem own_pd0 : parseMethodDescriptor "(IILjava/util/function/BiFunction;)I" = some ⟨[.int, .int, (.object "java/util/function/BiFunction")], some .int⟩ := by decide +kernel
theorem d4_0 : decode jdk_42_method_155_code 0 = .ok (.iload_n 0, 1) := by decide +kernel
theorem d4_1 : decode jdk_42_method_155_code 1 = .ok (.iload_n 1, 1) := by decide +kernel
theorem d4_2 : decode jdk_42_method_155_code 2 = .ok (.getstatic 1053, 3) := by decide +kernel
theorem d4_5 : decode jdk_42_method_155_code 5 = .ok (.invokestatic 1059, 3) := by decide +kernel
theorem d4_8 : decode jdk_42_method_155_code 8 = .ok (.pop, 1) := by decide +kernel
theorem d4_9 : decode jdk_42_method_155_code 9 = .ok (.return_, 1) := by decide +kernel
set_option maxRecDepth 65536 in
set_option maxHeartbeats 40000000 in
theorem rm4 (l : Launch) (Z : State) (a0 : Array Value) (hw : ∀ d ∈ tables_1, d.before a0 Z = true) (ws : List Jvm.Cond) (p1 : Int32) (p2 : Int32) (fm : Value) (h0 : Heap) (n0 : Nat) (Z0 : n0 ≤ h0.size) (S_SIOOBE_FORMATTER : Sta Z h0 "jdk/internal/util/Preconditions" "SIOOBE_FORMATTER" "Ljava/util/function/BiFunction;" fm) (rf : fm.isRef = true) (q1 : ¬ p1 < 0) (q2 : p1 < p2) :
    MetFree l (⟨"java/lang/String", "checkIndex", "(II)V"⟩ : MethodName) (head1 (Jvm.Cond.code (⟨"java/lang/String", "checkIndex", "(II)V"⟩ : MethodName) jdk_42_method_155_code 2 none :: ws) ({ frames := 1, cells := 0, slots := 0, locals := 14 } : Room)) (fun aa U => aa = #[(.int p1), (.int p2)] ∧ Z.Warmed39 U.vm ∧ U.heap = h0) (fun _ _ _ _ _ => True) (fun _ U o U' => ∃ v L, o = .returned v ∧ Q_rm4 Z p1 p2 fm h0 n0 v U'.heap L ∧ FrameEnd U o U' L ({ frames := 1, cells := 0, slots := 0, locals := 14 } : Room).cells ({ frames := 1, cells := 0, slots := 0, locals := 14 } : Room).slots) := by
  refine MetFree.of_bodySF (by decide +kernel) hisR ?_
  intro p e s m args below meth c s₁ Bd hml0 hP hK
  obtain ⟨rfl, hZ, hh⟩ := hP
  have hx := Bd.exec
  have hby := Bd.bytes
  have hml : c.maxLocals = 2 := hml0
  have hlk : meth.locks = false := BodyLoose.notSynchronized Bd
  have hown : s.vm.findClass "java/lang/String" = some m.cls := findClass_of_methodNamed Bd.named
  have hnm := (name_of_methodNamed Bd.named Bd.method).1
  have X0 : Stand p l e ({ frames := 1, cells := 0, slots := 0, locals := 14 } : Room) s m #[(.int p1), (.int p2)] below meth c s₁ [] 0 0 := Stand.of_body Bd
  have e0 : s₁.heap = h0 := by rw [← hh, Bd.state]; rfl
  have N0 := Fr.nil n0
  show own_Go p e below s (Q_rm4 Z p1 p2 fm h0 n0) 0 0 (s₁.setTop (entryFrame m #[(.int p1), (.int p2)] 2))
  refine own_go (B := s₁.setTop (mkF m 0 #[.val (.int p1), .val (.int p2)] [])) (fun tgt cont => (XT.entry rfl).trans cont) ?_
  refine own_go (B := s₁.setTop (mkF m 2 #[.val (.int p1), .val (.int p2)] [(.int p2), (.int p1)])) (fun tgt cont => ?_) ?_
  · refine XS.iloadN X0.here hx rfl (hb hby d4_0) rfl ?_
    refine XS.iloadN X0.here hx rfl (hb hby d4_1) rfl ?_
    exact cont
  rcases ref_cases rf with hf | ⟨f0, hf⟩
  ·
    have S0 : Sta Z h0 "jdk/internal/util/Preconditions" "SIOOBE_FORMATTER" "Ljava/util/function/BiFunction;" .null := by rw [← hf]; exact S_SIOOBE_FORMATTER
    obtain ⟨T1, X1, e1, st1⟩ := getS (host := "") X0 hx hZ hown (hw _ (List.mem_of_getElem? (i := 28) rfl)) Via.refl e0 S0 (g := (mkF m 2 #[.val (.int p1), .val (.int p2)] [(.int p2), (.int p1)])) rfl (hb hby d4_2)
    refine own_go (fun tgt cont => st1 tgt cont) ?_
    show own_Go p e below s (Q_rm4 Z p1 p2 fm h0 n0) 0 0 (T1.setTop (mkF m 5 #[.val (.int p1), .val (.int p2)] [.null, (.int p2), (.int p1)]))
    -- pc 5: Preconditions.checkIndex
    obtain ⟨_, _, ⟨T2, L2, k2, n2⟩, -, X2, ⟨Lc2, hQ2, l2, y2, z2⟩, st2⟩ := Jvm.LawKit.callS X1 hx (y := (⟨"jdk/internal/util/Preconditions", "checkIndex", "(IILjava/util/function/BiFunction;)I"⟩ : MethodName)) hown (mvT hZ (hw _ (List.mem_of_getElem? (i := 30) rfl))) (mvT hZ (hw _ (List.mem_of_getElem? (i := 31) rfl))) (mvT hZ (hw _ (List.mem_of_getElem? (i := 29) rfl))) (mvT hZ (hw _ (List.mem_of_getElem? (i := 32) rfl))) (by decide) (backOf (W := 0) (rm5_n l Z a0 hw [] p1 p2 h0 n0 Z0 q1 q2) hZ (hw _ (List.mem_of_getElem? (i := 32) rfl)) (hw _ (List.mem_of_getElem? (i := 29) rfl)) (by decide) (by decide)) (g := (mkF m 5 #[.val (.int p1), .val (.int p2)] [.null, (.int p2), (.int p1)])) rfl (by rw [hml]; rfl) (argsL := [(.int p1), (.int p2), .null]) (rest := []) (lenOf own_pd0 rfl) rfl (by show 2 * 0 + _ ≤ _; exact Nat.le_of_eq rfl) (hb hby d4_5) (fun _ _ => ⟨rfl, e1, (by decide : 0 + 0 ≤ _), (by decide : 0 + 0 ≤ _)⟩)
    dsimp only [Pt.U, Pt.locs, Pt.cells, Pt.slots] at X2 l2 y2 z2 st2 hQ2
    subst l2 y2 z2
    obtain ⟨rfl, N2q, e2⟩ := hQ2
    have N2 := Fr.app N0 N2q
    refine own_go (fun tgt cont => st2 tgt cont) ?_
    show own_Go p e below s (Q_rm4 Z p1 p2 fm h0 n0) 0 0 (T2.setTop (mkF m 8 #[.val (.int p1), .val (.int p2)] [(.int (own_ci p1 p2))]))
    refine own_go (B := T2.setTop (mkF m 9 #[.val (.int p1), .val (.int p2)] [])) (fun tgt cont => ?_) ?_
    · refine XS.pop X2.here hx rfl (hb hby d4_8) rfl rfl ?_
      exact cont
    refine own_end X2 (v := none) (fun _ => rfl) hlk ?_ (by decide) (by decide) (fun fs hl => X2.returnOut hx Bd.returns (hb hby d4_9) hl)
    exact ⟨rfl, N2, e2⟩
  ·
    have S0 : Sta Z h0 "jdk/internal/util/Preconditions" "SIOOBE_FORMATTER" "Ljava/util/function/BiFunction;" (.ref f0) := by rw [← hf]; exact S_SIOOBE_FORMATTER
    obtain ⟨T3, X3, e3, st3⟩ := getS (host := "") X0 hx hZ hown (hw _ (List.mem_of_getElem? (i := 28) rfl)) Via.refl e0 S0 (g := (mkF m 2 #[.val (.int p1), .val (.int p2)] [(.int p2), (.int p1)])) rfl (hb hby d4_2)
    refine own_go (fun tgt cont => st3 tgt cont) ?_
    show own_Go p e below s (Q_rm4 Z p1 p2 fm h0 n0) 0 0 (T3.setTop (mkF m 5 #[.val (.int p1), .val (.int p2)] [(.ref f0), (.int p2), (.int p1)]))
    -- pc 5: Preconditions.checkIndex
    obtain ⟨_, _, ⟨T4, L4, k4, n4⟩, -, X4, ⟨Lc4, hQ4, l4, y4, z4⟩, st4⟩ := Jvm.LawKit.callS X3 hx (y := (⟨"jdk/internal/util/Preconditions", "checkIndex", "(IILjava/util/function/BiFunction;)I"⟩ : MethodName)) hown (mvT hZ (hw _ (List.mem_of_getElem? (i := 30) rfl))) (mvT hZ (hw _ (List.mem_of_getElem? (i := 31) rfl))) (mvT hZ (hw _ (List.mem_of_getElem? (i := 29) rfl))) (mvT hZ (hw _ (List.mem_of_getElem? (i := 32) rfl))) (by decide) (backOf (W := 0) (rm5_r l Z a0 hw [] p1 p2 f0 h0 n0 Z0 q1 q2) hZ (hw _ (List.mem_of_getElem? (i := 32) rfl)) (hw _ (List.mem_of_getElem? (i := 29) rfl)) (by decide) (by decide)) (g := (mkF m 5 #[.val (.int p1), .val (.int p2)] [(.ref f0), (.int p2), (.int p1)])) rfl (by rw [hml]; rfl) (argsL := [(.int p1), (.int p2), (.ref f0)]) (rest := []) (lenOf own_pd0 rfl) rfl (by show 2 * 0 + _ ≤ _; exact Nat.le_of_eq rfl) (hb hby d4_5) (fun _ _ => ⟨rfl, e3, (by decide : 0 + 0 ≤ _), (by decide : 0 + 0 ≤ _)⟩)
    dsimp only [Pt.U, Pt.locs, Pt.cells, Pt.slots] at X4 l4 y4 z4 st4 hQ4
    subst l4 y4 z4
    obtain ⟨rfl, N4q, e4⟩ := hQ4
    have N4 := Fr.app N0 N4q
    refine own_go (fun tgt cont => st4 tgt cont) ?_
    show own_Go p e below s (Q_rm4 Z p1 p2 fm h0 n0) 0 0 (T4.setTop (mkF m 8 #[.val (.int p1), .val (.int p2)] [(.int (own_cj p1 p2 f0))]))
    refine own_go (B := T4.setTop (mkF m 9 #[.val (.int p1), .val (.int p2)] [])) (fun tgt cont => ?_) ?_
    · refine XS.pop X4.here hx rfl (hb hby d4_8) rfl rfl ?_
      exact cont
    refine own_end X4 (v := none) (fun _ => rfl) hlk ?_ (by decide) (by decide) (fun fs hl => X4.returnOut hx Bd.returns (hb hby d4_9) hl)
    exact ⟨rfl, N4, e4⟩
def own_slc_r (p1 : Int32) (vs : List Int32) : Int32 := (nar .char (((vs.getD p1.toNatClampNeg 0) &&& (255 : Int32)).toUInt32.toUInt16.toUInt32.toInt32))
def Q_rm3 (Z : State) (a : Addr) (p1 : Int32) (vs : List Int32) (fm : Value) (h0 : Heap) (n0 : Nat) (v : Option Value) (h : Heap) (L : List Loc) : Prop := v = some (.int (own_slc_r p1 vs)) ∧ Fr n0 L ∧ h = h0
theorem own_pn1 : plainName "java/lang/StringLatin1" = true := by first | (simp [plainName, overriddenIn]; done) | decide +kernel
theorem own_pd1 : parseMethodDescriptor "(II)V" = some ⟨[.int, .int], none⟩ := by decide +kernel
theorem d3_0 : decode jdk_43_method_2_code 0 = .ok (.iload_n 1, 1) := by decide +kernel
theorem d3_1 : decode jdk_43_method_2_code 1 = .ok (.aload_n 0, 1) := by decide +kernel
theorem d3_2 : decode jdk_43_method_2_code 2 = .ok (.arraylength, 1) := by decide +kernel
theorem d3_3 : decode jdk_43_method_2_code 3 = .ok (.invokestatic 9, 3) := by decide +kernel
theorem d3_6 : decode jdk_43_method_2_code 6 = .ok (.aload_n 0, 1) := by decide +kernel
theorem d3_7 : decode jdk_43_method_2_code 7 = .ok (.iload_n 1, 1) := by decide +kernel
theorem d3_8 : decode jdk_43_method_2_code 8 = .ok (.baload, 1) := by decide +kernel
theorem d3_9 : decode jdk_43_method_2_code 9 = .ok (.sipush 255, 3) := by decide +kernel
theorem d3_12 : decode jdk_43_method_2_code 12 = .ok (.iand, 1) := by decide +kernel
theorem d3_13 : decode jdk_43_method_2_code 13 = .ok (.i2c, 1) := by decide +kernel
theorem d3_14 : decode jdk_43_method_2_code 14 = .ok (.ireturn, 1) := by decide +kernel
set_option maxRecDepth 65536 in
set_option maxHeartbeats 40000000 in
theorem rm3 (l : Launch) (Z : State) (a0 : Array Value) (hw : ∀ d ∈ tables_1, d.before a0 Z = true) (ws : List Jvm.Cond) (a : Addr) (p1 : Int32) (vs : List Int32) (fm : Value) (h0 : Heap) (n0 : Nat) (Z0 : n0 ≤ h0.size) (A_a : own_BA Z h0 a vs) (S_SIOOBE_FORMATTER : Sta Z h0 "jdk/internal/util/Preconditions" "SIOOBE_FORMATTER" "Ljava/util/function/BiFunction;" fm) (rf : fm.isRef = true) (q1 : ¬ p1 < 0) (q2 : p1 < Int32.ofNat vs.length) (q3 : ¬ p1 < 0 ∧ p1.toNatClampNeg < vs.length) :
    MetFree l (⟨"java/lang/StringLatin1", "charAt", "([BI)C"⟩ : MethodName) (head1 (Jvm.Cond.code (⟨"java/lang/StringLatin1", "charAt", "([BI)C"⟩ : MethodName) jdk_43_method_2_code 2 (some .char) :: ws) ({ frames := 2, cells := 0, slots := 0, locals := 27 } : Room)) (fun aa U => aa = #[(.ref a), (.int p1)] ∧ Z.Warmed39 U.vm ∧ U.heap = h0) (fun _ _ _ _ _ => True) (fun _ U o U' => ∃ v L, o = .returned v ∧ Q_rm3 Z a p1 vs fm h0 n0 v U'.heap L ∧ FrameEnd U o U' L ({ frames := 2, cells := 0, slots := 0, locals := 27 } : Room).cells ({ frames := 2, cells := 0, slots := 0, locals := 27 } : Room).slots) := by
  refine MetFree.of_bodySF (plainFor_of_name own_pn1) hisR ?_
  intro p e s m args below meth c s₁ Bd hml0 hP hK
  obtain ⟨rfl, hZ, hh⟩ := hP
  have hx := Bd.exec
  have hby := Bd.bytes
  have hml : c.maxLocals = 2 := hml0
  have hlk : meth.locks = false := BodyLoose.notSynchronized Bd
  have hown : s.vm.findClass "java/lang/StringLatin1" = some m.cls := findClass_of_methodNamed Bd.named
  have hnm := (name_of_methodNamed Bd.named Bd.method).1
  have X0 : Stand p l e ({ frames := 2, cells := 0, slots := 0, locals := 27 } : Room) s m #[(.ref a), (.int p1)] below meth c s₁ [] 0 0 := Stand.of_body Bd
  have e0 : s₁.heap = h0 := by rw [← hh, Bd.state]; rfl
  have N0 := Fr.nil n0
  show own_Go p e below s (Q_rm3 Z a p1 vs fm h0 n0) 0 0 (s₁.setTop (entryFrame m #[(.ref a), (.int p1)] 2))
  refine own_go (B := s₁.setTop (mkF m 0 #[.val (.ref a), .val (.int p1)] [])) (fun tgt cont => (XT.entry rfl).trans cont) ?_
  refine own_go (B := s₁.setTop (mkF m 3 #[.val (.ref a), .val (.int p1)] [(.int (Int32.ofNat vs.length)), (.int p1)])) (fun tgt cont => ?_) ?_
  · refine XS.iloadN X0.here hx rfl (hb hby d3_0) rfl ?_
    refine XS.aloadN X0.here hx rfl (hb hby d3_1) rfl rfl ?_
    refine own_lenBA X0 hx hZ e0 A_a (g := (mkF m 2 #[.val (.ref a), .val (.int p1)] [(.ref a), (.int p1)])) rfl rfl (hb hby d3_2) ?_
    exact cont
  -- pc 3: String.checkIndex
  obtain ⟨_, _, ⟨T1, L1, k1, n1⟩, -, X1, ⟨Lc1, hQ1, l1, y1, z1⟩, st1⟩ := Jvm.LawKit.callS X0 hx (y := (⟨"java/lang/String", "checkIndex", "(II)V"⟩ : MethodName)) hown (mvT hZ (hw _ (List.mem_of_getElem? (i := 25) rfl))) (mvT hZ (hw _ (List.mem_of_getElem? (i := 26) rfl))) (mvT hZ (hw _ (List.mem_of_getElem? (i := 1) rfl))) (mvT hZ (hw _ (List.mem_of_getElem? (i := 27) rfl))) (by decide) (backOf (W := 0) (rm4 l Z a0 hw [] p1 (Int32.ofNat vs.length) fm h0 n0 Z0 S_SIOOBE_FORMATTER rf q1 q2) hZ (hw _ (List.mem_of_getElem? (i := 27) rfl)) (hw _ (List.mem_of_getElem? (i := 1) rfl)) (by decide) (by decide)) (g := (mkF m 3 #[.val (.ref a), .val (.int p1)] [(.int (Int32.ofNat vs.length)), (.int p1)])) rfl (by rw [hml]; rfl) (argsL := [(.int p1), (.int (Int32.ofNat vs.length))]) (rest := []) (lenOf own_pd1 rfl) rfl (by show 2 * 0 + _ ≤ _; exact Nat.le_of_eq rfl) (hb hby d3_3) (fun _ _ => ⟨rfl, e0, (by decide : 0 + 0 ≤ _), (by decide : 0 + 0 ≤ _)⟩)
  dsimp only [Pt.U, Pt.locs, Pt.cells, Pt.slots] at X1 l1 y1 z1 st1 hQ1
  subst l1 y1 z1
  obtain ⟨rfl, N1q, e1⟩ := hQ1
  have N1 := Fr.app N0 N1q
  refine own_go (fun tgt cont => st1 tgt cont) ?_
  show own_Go p e below s (Q_rm3 Z a p1 vs fm h0 n0) 0 0 (T1.setTop (mkF m 6 #[.val (.ref a), .val (.int p1)] []))
  refine own_go (B := T1.setTop (mkF m 14 #[.val (.ref a), .val (.int p1)] [(.int (((vs.getD p1.toNatClampNeg 0) &&& (255 : Int32)).toUInt32.toUInt16.toUInt32.toInt32))])) (fun tgt cont => ?_) ?_
  · refine XS.aloadN X1.here hx rfl (hb hby d3_6) rfl rfl ?_
    refine XS.iloadN X1.here hx rfl (hb hby d3_7) rfl ?_
    refine own_ldBA X1 hx hZ e1 A_a (j := p1) q3 (g := (mkF m 8 #[.val (.ref a), .val (.int p1)] [(.int p1), (.ref a)])) rfl rfl (hb hby d3_8) ?_
    refine XT.sipushV X1.here hx rfl (255 : Int32) (hb hby d3_9) rfl ?_
    refine XS.iand X1.here hx rfl (hb hby d3_12) rfl ?_
    refine XS.i2c X1.here hx rfl (hb hby d3_13) rfl ?_
    exact cont
  refine own_end X1 (v := some (.int (nar .char (((vs.getD p1.toNatClampNeg 0) &&& (255 : Int32)).toUInt32.toUInt16.toUInt32.toInt32)))) (fun h => by rw [Bd.returns] at h; cases h) hlk ?_ (by decide) (by decide) (fun fs hl => retN X1 hx (t := .char) Bd.returns (by simp) (hb hby d3_14) hl)
  exact ⟨(by unfold own_slc_r; exact rfl), N1, e1⟩
def Q_rm2 (Z : State) (a : Addr) (z : Int32) (h0 : Heap) (n0 : Nat) (v : Option Value) (h : Heap) (L : List Loc) : Prop := v = some (.int (1 : Int32)) ∧ Fr n0 L ∧ h = h0
theorem d2_0 : decode jdk_42_method_154_code 0 = .ok (.getstatic 38, 3) := by decide +kernel
theorem d2_3 : decode jdk_42_method_154_code 3 = .ok (.ifCond .eq 14, 3) := by decide +kernel
theorem d2_6 : decode jdk_42_method_154_code 6 = .ok (.aload_n 0, 1) := by decide +kernel
theorem d2_7 : decode jdk_42_method_154_code 7 = .ok (.getfield 15, 3) := by decide +kernel
theorem d2_10 : decode jdk_42_method_154_code 10 = .ok (.ifCond .ne 7, 3) := by decide +kernel
theorem d2_13 : decode jdk_42_method_154_code 13 = .ok (.iconst 1, 1) := by decide +kernel
theorem d2_14 : decode jdk_42_method_154_code 14 = .ok (.goto 4, 3) := by decide +kernel
theorem d2_18 : decode jdk_42_method_154_code 18 = .ok (.ireturn, 1) := by decide +kernel
set_option maxRecDepth 65536 in
set_option maxHeartbeats 40000000 in
theorem rm2 (l : Launch) (Z : State) (a0 : Array Value) (hw : ∀ d ∈ tables_1, d.before a0 Z = true) (ws : List Jvm.Cond) (a : Addr) (z : Int32) (h0 : Heap) (n0 : Nat) (Z0 : n0 ≤ h0.size) (E_a : Exa Z h0 a "java/lang/String") (F_a_coder : Fld Z h0 a "java/lang/String" "coder" "B" (.int (0 : Int32))) (S_COMPACT_STRINGS : Sta Z h0 "java/lang/String" "COMPACT_STRINGS" "Z" (.int z)) (hz : ¬ z = 0) :
    MetFree l (⟨"java/lang/String", "isLatin1", "()Z"⟩ : MethodName) (head1 (Jvm.Cond.code (⟨"java/lang/String", "isLatin1", "()Z"⟩ : MethodName) jdk_42_method_154_code 1 (some .boolean) :: ws) ({ frames := 0, cells := 0, slots := 0, locals := 0 } : Room)) (fun aa U => aa = #[(.ref a)] ∧ Z.Warmed39 U.vm ∧ U.heap = h0) (fun _ _ _ _ _ => True) (fun _ U o U' => ∃ v L, o = .returned v ∧ Q_rm2 Z a z h0 n0 v U'.heap L ∧ FrameEnd U o U' L ({ frames := 0, cells := 0, slots := 0, locals := 0 } : Room).cells ({ frames := 0, cells := 0, slots := 0, locals := 0 } : Room).slots) := by
  refine MetFree.of_bodySF (by decide +kernel) hisR ?_
  intro p e s m args below meth c s₁ Bd hml0 hP hK
  obtain ⟨rfl, hZ, hh⟩ := hP
  have hx := Bd.exec
  have hby := Bd.bytes
  have hml : c.maxLocals = 1 := hml0
  have hlk : meth.locks = false := BodyLoose.notSynchronized Bd
  have hown : s.vm.findClass "java/lang/String" = some m.cls := findClass_of_methodNamed Bd.named
  have hnm := (name_of_methodNamed Bd.named Bd.method).1
  have X0 : Stand p l e ({ frames := 0, cells := 0, slots := 0, locals := 0 } : Room) s m #[(.ref a)] below meth c s₁ [] 0 0 := Stand.of_body Bd
  have e0 : s₁.heap = h0 := by rw [← hh, Bd.state]; rfl
  have N0 := Fr.nil n0
  show own_Go p e below s (Q_rm2 Z a z h0 n0) 0 0 (s₁.setTop (entryFrame m #[(.ref a)] 1))
  refine own_go (B := s₁.setTop (mkF m 0 #[.val (.ref a)] [])) (fun tgt cont => (XT.entry rfl).trans cont) ?_
  obtain ⟨T1, X1, e1, st1⟩ := getS (host := "") X0 hx hZ hown (hw _ (List.mem_of_getElem? (i := 18) rfl)) Via.refl e0 S_COMPACT_STRINGS (g := (mkF m 0 #[.val (.ref a)] [])) rfl (hb hby d2_0)
  refine own_go (fun tgt cont => st1 tgt cont) ?_
  show own_Go p e below s (Q_rm2 Z a z h0 n0) 0 0 (T1.setTop (mkF m 3 #[.val (.ref a)] [(.int z)]))
  refine own_go (B := T1.setTop (mkF m 7 #[.val (.ref a)] [(.ref a)])) (fun tgt cont => ?_) ?_
  · refine XS.ifNo X1.here hx rfl (hb hby d2_3) rfl (XT.i0_eq_f hz) ?_
    refine XS.aloadN X1.here hx rfl (hb hby d2_6) rfl rfl ?_
    exact cont
  obtain ⟨T2, X2, e2, st2⟩ := getF X1 hx hZ hown (host := "") (Or.inl (hw _ (List.mem_of_getElem? (i := 19) rfl))) Via.refl e1 F_a_coder (g := (mkF m 7 #[.val (.ref a)] [(.ref a)])) rfl rfl (hb hby d2_7)
  refine own_go (fun tgt cont => st2 tgt cont) ?_
  show own_Go p e below s (Q_rm2 Z a z h0 n0) 0 0 (T2.setTop (mkF m 10 #[.val (.ref a)] [(.int (0 : Int32))]))
  refine own_go (B := T2.setTop (mkF m 18 #[.val (.ref a)] [(.int (1 : Int32))])) (fun tgt cont => ?_) ?_
  · refine XS.ifNo X2.here hx rfl (hb hby d2_10) rfl (XT.i0_ne_f (by first | decide | exact (show (0 : Int32) = 0 from by decide))) ?_
    refine XT.iconstV X2.here hx rfl (1 : Int32) (hb hby d2_13) rfl ?_
    refine XS.goto X2.here hx rfl (pc0 := 14) (pc' := 18) rfl (hb hby d2_14) (by decide) (by decide) ?_
    exact cont
  refine own_end X2 (v := some (.int (1 : Int32))) (fun h => by rw [Bd.returns] at h; cases h) hlk ?_ (by decide) (by decide) (fun fs hl => retN X2 hx (t := .boolean) Bd.returns (by simp) (hb hby d2_18) hl)
  exact ⟨rfl, N0, e2⟩
def own_cha_r (p1 : Int32) (vs : List Int32) : Int32 := (nar .char (own_slc_r p1 vs))
def Q_rm1 (Z : State) (a : Addr) (p1 : Int32) (u_v : Addr) (vs : List Int32) (z : Int32) (fm : Value) (h0 : Heap) (n0 : Nat) (v : Option Value) (h : Heap) (L : List Loc) : Prop := v = some (.int (own_cha_r p1 vs)) ∧ Fr n0 L ∧ h = h0
theorem own_pd2 : parseMethodDescriptor "()Z" = some ⟨[], some .boolean⟩ := by decide +kernel
theorem own_pd3 : parseMethodDescriptor "([BI)C" = some ⟨[(.array .byte), .int], some .char⟩ := by decide +kernel
theorem d1_0 : decode jdk_42_method_56_code 0 = .ok (.aload_n 0, 1) := by decide +kernel
theorem d1_1 : decode jdk_42_method_56_code 1 = .ok (.invokevirtual 492, 3) := by decide +kernel
theorem d1_4 : decode jdk_42_method_56_code 4 = .ok (.ifCond .eq 12, 3) := by decide +kernel
theorem d1_7 : decode jdk_42_method_56_code 7 = .ok (.aload_n 0, 1) := by decide +kernel
theorem d1_8 : decode jdk_42_method_56_code 8 = .ok (.getfield 9, 3) := by decide +kernel
theorem d1_11 : decode jdk_42_method_56_code 11 = .ok (.iload_n 1, 1) := by decide +kernel
theorem d1_12 : decode jdk_42_method_56_code 12 = .ok (.invokestatic 495, 3) := by decide +kernel
theorem d1_15 : decode jdk_42_method_56_code 15 = .ok (.ireturn, 1) := by decide +kernel
set_option maxRecDepth 65536 in
set_option maxHeartbeats 40000000 in
theorem rm1 (l : Launch) (Z : State) (a0 : Array Value) (hw : ∀ d ∈ tables_1, d.before a0 Z = true) (ws : List Jvm.Cond) (a : Addr) (p1 : Int32) (u_v : Addr) (vs : List Int32) (z : Int32) (fm : Value) (h0 : Heap) (n0 : Nat) (Z0 : n0 ≤ h0.size) (E_a : Exa Z h0 a "java/lang/String") (F_a_value : Fld Z h0 a "java/lang/String" "value" "[B" (.ref u_v)) (F_a_coder : Fld Z h0 a "java/lang/String" "coder" "B" (.int (0 : Int32))) (A_u_v : own_BA Z h0 u_v vs) (S_COMPACT_STRINGS : Sta Z h0 "java/lang/String" "COMPACT_STRINGS" "Z" (.int z)) (S_SIOOBE_FORMATTER : Sta Z h0 "jdk/internal/util/Preconditions" "SIOOBE_FORMATTER" "Ljava/util/function/BiFunction;" fm) (hz : ¬ z = 0) (rf : fm.isRef = true) (q1 : ¬ p1 < 0) (q2 : p1 < Int32.ofNat vs.length) (q3 : ¬ p1 < 0 ∧ p1.toNatClampNeg < vs.length) :
    MetFree l (⟨"java/lang/String", "charAt", "(I)C"⟩ : MethodName) (head1 (Jvm.Cond.code (⟨"java/lang/String", "charAt", "(I)C"⟩ : MethodName) jdk_42_method_56_code 2 (some .char) :: ws) ({ frames := 3, cells := 0, slots := 0, locals := 40 } : Room)) (fun aa U => aa = #[(.ref a), (.int p1)] ∧ Z.Warmed39 U.vm ∧ U.heap = h0) (fun _ _ _ _ _ => True) (fun _ U o U' => ∃ v L, o = .returned v ∧ Q_rm1 Z a p1 u_v vs z fm h0 n0 v U'.heap L ∧ FrameEnd U o U' L ({ frames := 3, cells := 0, slots := 0, locals := 40 } : Room).cells ({ frames := 3, cells := 0, slots := 0, locals := 40 } : Room).slots) := by
  refine MetFree.of_bodySF (by decide +kernel) hisR ?_
  intro p e s m args below meth c s₁ Bd hml0 hP hK
  obtain ⟨rfl, hZ, hh⟩ := hP
  have hx := Bd.exec
  have hby := Bd.bytes
  have hml : c.maxLocals = 2 := hml0
  have hlk : meth.locks = false := BodyLoose.notSynchronized Bd
  have hown : s.vm.findClass "java/lang/String" = some m.cls := findClass_of_methodNamed Bd.named
  have hnm := (name_of_methodNamed Bd.named Bd.method).1
  have X0 : Stand p l e ({ frames := 3, cells := 0, slots := 0, locals := 40 } : Room) s m #[(.ref a), (.int p1)] below meth c s₁ [] 0 0 := Stand.of_body Bd
  have e0 : s₁.heap = h0 := by rw [← hh, Bd.state]; rfl
  have N0 := Fr.nil n0
  show own_Go p e below s (Q_rm1 Z a p1 u_v vs z fm h0 n0) 0 0 (s₁.setTop (entryFrame m #[(.ref a), (.int p1)] 2))
  refine own_go (B := s₁.setTop (mkF m 0 #[.val (.ref a), .val (.int p1)] [])) (fun tgt cont => (XT.entry rfl).trans cont) ?_
  have ne_a_u_v := own_neA E_a (hw _ (List.mem_of_getElem? (i := 2) rfl)) A_u_v.arr
  refine own_go (B := s₁.setTop (mkF m 1 #[.val (.ref a), .val (.int p1)] [(.ref a)])) (fun tgt cont => ?_) ?_
  · refine XS.aloadN X0.here hx rfl (hb hby d1_0) rfl rfl ?_
    exact cont
  -- pc 1: String.isLatin1
  obtain ⟨cq1, kq1, qa1, qb1, qc1⟩ := isOf hZ e0 E_a
  obtain ⟨_, _, ⟨T1, L1, k1, n1⟩, -, X1, ⟨Lc1, hQ1, l1, y1, z1⟩, st1⟩ := X0.virtualBack hx (y := (⟨"java/lang/String", "isLatin1", "()Z"⟩ : MethodName)) (z := (⟨"java/lang/String", "isLatin1", "()Z"⟩ : MethodName)) hown (mvT hZ (hw _ (List.mem_of_getElem? (i := 13) rfl))) (mvT hZ (hw _ (List.mem_of_getElem? (i := 14) rfl))) (notFace_of_selects (args := #[]) (mvT hZ (hw _ (List.mem_of_getElem? (i := 16) rfl)))) (mvT hZ (hw _ (List.mem_of_getElem? (i := 16) rfl))) (mvT hZ (hw _ (List.mem_of_getElem? (i := 15) rfl))) (by decide) (backOf (W := 0) (rm2 l Z a0 hw [] a z h0 n0 Z0 E_a F_a_coder S_COMPACT_STRINGS hz) hZ (hw _ (List.mem_of_getElem? (i := 17) rfl)) (hw _ (List.mem_of_getElem? (i := 1) rfl)) (by decide) (by decide)) qa1 qc1 (g := (mkF m 1 #[.val (.ref a), .val (.int p1)] [(.ref a)])) rfl (by rw [hml]; rfl) (Steps.refl _) (argsL := []) (rest := []) (lenOf own_pd2 rfl) rfl (by show 2 * 0 + _ ≤ _; exact Nat.le_of_eq rfl) (hb hby d1_1) (fun _ _ => ⟨rfl, e0, (by decide : 0 + 0 ≤ _), (by decide : 0 + 0 ≤ _)⟩)
  dsimp only [Pt.U, Pt.locs, Pt.cells, Pt.slots] at X1 l1 y1 z1 st1 hQ1
  subst l1 y1 z1
  obtain ⟨rfl, N1q, e1⟩ := hQ1
  have N1 := Fr.app N0 N1q
  refine own_go (fun tgt cont => st1.trans cont) ?_
  show own_Go p e below s (Q_rm1 Z a p1 u_v vs z fm h0 n0) 0 0 (T1.setTop (mkF m 4 #[.val (.ref a), .val (.int p1)] [(.int (1 : Int32))]))
  refine own_go (B := T1.setTop (mkF m 8 #[.val (.ref a), .val (.int p1)] [(.ref a)])) (fun tgt cont => ?_) ?_
  · refine XS.ifNo X1.here hx rfl (hb hby d1_4) rfl (XT.i0_eq_f (by first | decide | exact (show ¬ ((1 : Int32) = 0) from by decide))) ?_
    refine XS.aloadN X1.here hx rfl (hb hby d1_7) rfl rfl ?_
    exact cont
  obtain ⟨T2, X2, e2, st2⟩ := getF X1 hx hZ hown (host := "") (Or.inl (hw _ (List.mem_of_getElem? (i := 20) rfl))) Via.refl e1 F_a_value (g := (mkF m 8 #[.val (.ref a), .val (.int p1)] [(.ref a)])) rfl rfl (hb hby d1_8)
  refine own_go (fun tgt cont => st2 tgt cont) ?_
  show own_Go p e below s (Q_rm1 Z a p1 u_v vs z fm h0 n0) 0 0 (T2.setTop (mkF m 11 #[.val (.ref a), .val (.int p1)] [(.ref u_v)]))
  refine own_go (B := T2.setTop (mkF m 12 #[.val (.ref a), .val (.int p1)] [(.int p1), (.ref u_v)])) (fun tgt cont => ?_) ?_
  · refine XS.iloadN X2.here hx rfl (hb hby d1_11) rfl ?_
    exact cont
  -- pc 12: StringLatin1.charAt
  obtain ⟨_, _, ⟨T3, L3, k3, n3⟩, -, X3, ⟨Lc3, hQ3, l3, y3, z3⟩, st3⟩ := Jvm.LawKit.callS X2 hx (y := (⟨"java/lang/StringLatin1", "charAt", "([BI)C"⟩ : MethodName)) hown (mvT hZ (hw _ (List.mem_of_getElem? (i := 21) rfl))) (mvT hZ (hw _ (List.mem_of_getElem? (i := 22) rfl))) (mvT hZ (hw _ (List.mem_of_getElem? (i := 23) rfl))) (mvT hZ (hw _ (List.mem_of_getElem? (i := 24) rfl))) (by decide) (backOf (W := 0) (rm3 l Z a0 hw [] u_v p1 vs fm h0 n0 Z0 A_u_v S_SIOOBE_FORMATTER rf q1 q2 q3) hZ (hw _ (List.mem_of_getElem? (i := 24) rfl)) (hw _ (List.mem_of_getElem? (i := 23) rfl)) (by decide) (by decide)) (g := (mkF m 12 #[.val (.ref a), .val (.int p1)] [(.int p1), (.ref u_v)])) rfl (by rw [hml]; rfl) (argsL := [(.ref u_v), (.int p1)]) (rest := []) (lenOf own_pd3 rfl) rfl (by show 2 * 0 + _ ≤ _; exact Nat.le_of_eq rfl) (hb hby d1_12) (fun _ _ => ⟨rfl, e2, (by decide : 0 + 0 + 0 ≤ _), (by decide : 0 + 0 + 0 ≤ _)⟩)
  dsimp only [Pt.U, Pt.locs, Pt.cells, Pt.slots] at X3 l3 y3 z3 st3 hQ3
  subst l3 y3 z3
  obtain ⟨rfl, N3q, e3⟩ := hQ3
  have N3 := Fr.app N1 N3q
  refine own_go (fun tgt cont => st3 tgt cont) ?_
  show own_Go p e below s (Q_rm1 Z a p1 u_v vs z fm h0 n0) 0 0 (T3.setTop (mkF m 15 #[.val (.ref a), .val (.int p1)] [(.int (own_slc_r p1 vs))]))
  refine own_end X3 (v := some (.int (nar .char (own_slc_r p1 vs)))) (fun h => by rw [Bd.returns] at h; cases h) hlk ?_ (by decide) (by decide) (fun fs hl => retN X3 hx (t := .char) Bd.returns (by simp) (hb hby d1_15) hl)
  exact ⟨(by unfold own_cha_r; exact rfl), N3, e3⟩
def own_hex (p1 : Int32) : Int32 := if p1 < (48 : Int32) then if p1 < (97 : Int32) then if p1 < (65 : Int32) then (-1 : Int32) else if (70 : Int32) < p1 then (-1 : Int32) else ((p1 - (65 : Int32)) + (10 : Int32)) else if (102 : Int32) < p1 then if p1 < (65 : Int32) then (-1 : Int32) else if (70 : Int32) < p1 then (-1 : Int32) else ((p1 - (65 : Int32)) + (10 : Int32)) else ((p1 - (97 : Int32)) + (10 : Int32)) else if (57 : Int32) < p1 then if p1 < (97 : Int32) then if p1 < (65 : Int32) then (-1 : Int32) else if (70 : Int32) < p1 then (-1 : Int32) else ((p1 - (65 : Int32)) + (10 : Int32)) else if (102 : Int32) < p1 then if p1 < (65 : Int32) then (-1 : Int32) else if (70 : Int32) < p1 then (-1 : Int32) else ((p1 - (65 : Int32)) + (10 : Int32)) else ((p1 - (97 : Int32)) + (10 : Int32)) else (p1 - (48 : Int32))
def Q_rm6 (Z : State) (p1 : Int32) (h0 : Heap) (n0 : Nat) (v : Option Value) (h : Heap) (L : List Loc) : Prop := v = some (.int (own_hex p1)) ∧ Fr n0 L ∧ h = h0
theorem own_pn2 : plainName "com/example/pandect/pandect/text/TokenReader" = true := by first | (simp [plainName, overriddenIn]; done) | decide +kernel
theorem d6_0 : decode prog_142_method_18_code 0 = .ok (.iload_n 0, 1) := by decide +kernel
theorem d6_1 : decode prog_142_method_18_code 1 = .ok (.bipush 48, 2) := by decide +kernel
theorem d6_3 : decode prog_142_method_18_code 3 = .ok (.if_icmp .lt 17, 3) := by decide +kernel
theorem d6_6 : decode prog_142_method_18_code 6 = .ok (.iload_n 0, 1) := by decide +kernel
theorem d6_7 : decode prog_142_method_18_code 7 = .ok (.bipush 57, 2) := by decide +kernel
theorem d6_9 : decode prog_142_method_18_code 9 = .ok (.if_icmp .gt 11, 3) := by decide +kernel
theorem d6_12 : decode prog_142_method_18_code 12 = .ok (.iload_n 0, 1) := by decide +kernel
theorem d6_13 : decode prog_142_method_18_code 13 = .ok (.bipush 48, 2) := by decide +kernel
theorem d6_15 : decode prog_142_method_18_code 15 = .ok (.isub, 1) := by decide +kernel
theorem d6_16 : decode prog_142_method_18_code 16 = .ok (.istore_n 1, 1) := by decide +kernel
theorem d6_17 : decode prog_142_method_18_code 17 = .ok (.goto 51, 3) := by decide +kernel
theorem d6_20 : decode prog_142_method_18_code 20 = .ok (.iload_n 0, 1) := by decide +kernel
theorem d6_21 : decode prog_142_method_18_code 21 = .ok (.bipush 97, 2) := by decide +kernel
theorem d6_23 : decode prog_142_method_18_code 23 = .ok (.if_icmp .lt 20, 3) := by decide +kernel
theorem d6_26 : decode prog_142_method_18_code 26 = .ok (.iload_n 0, 1) := by decide +kernel
theorem d6_27 : decode prog_142_method_18_code 27 = .ok (.bipush 102, 2) := by decide +kernel
theorem d6_29 : decode prog_142_method_18_code 29 = .ok (.if_icmp .gt 14, 3) := by decide +kernel
theorem d6_32 : decode prog_142_method_18_code 32 = .ok (.iload_n 0, 1) := by decide +kernel
theorem d6_33 : decode prog_142_method_18_code 33 = .ok (.bipush 97, 2) := by decide +kernel
theorem d6_35 : decode prog_142_method_18_code 35 = .ok (.isub, 1) := by decide +kernel
theorem d6_36 : decode prog_142_method_18_code 36 = .ok (.bipush 10, 2) := by decide +kernel
theorem d6_38 : decode prog_142_method_18_code 38 = .ok (.iadd, 1) := by decide +kernel
theorem d6_39 : decode prog_142_method_18_code 39 = .ok (.istore_n 1, 1) := by decide +kernel
theorem d6_40 : decode prog_142_method_18_code 40 = .ok (.goto 28, 3) := by decide +kernel
theorem d6_43 : decode prog_142_method_18_code 43 = .ok (.iload_n 0, 1) := by decide +kernel
theorem d6_44 : decode prog_142_method_18_code 44 = .ok (.bipush 65, 2) := by decide +kernel
theorem d6_46 : decode prog_142_method_18_code 46 = .ok (.if_icmp .lt 20, 3) := by decide +kernel
theorem d6_49 : decode prog_142_method_18_code 49 = .ok (.iload_n 0, 1) := by decide +kernel
theorem d6_50 : decode prog_142_method_18_code 50 = .ok (.bipush 70, 2) := by decide +kernel
theorem d6_52 : decode prog_142_method_18_code 52 = .ok (.if_icmp .gt 14, 3) := by decide +kernel
theorem d6_55 : decode prog_142_method_18_code 55 = .ok (.iload_n 0, 1) := by decide +kernel
theorem d6_56 : decode prog_142_method_18_code 56 = .ok (.bipush 65, 2) := by decide +kernel
theorem d6_58 : decode prog_142_method_18_code 58 = .ok (.isub, 1) := by decide +kernel
theorem d6_59 : decode prog_142_method_18_code 59 = .ok (.bipush 10, 2) := by decide +kernel
theorem d6_61 : decode prog_142_method_18_code 61 = .ok (.iadd, 1) := by decide +kernel
theorem d6_62 : decode prog_142_method_18_code 62 = .ok (.istore_n 1, 1) := by decide +kernel
theorem d6_63 : decode prog_142_method_18_code 63 = .ok (.goto 5, 3) := by decide +kernel
theorem d6_66 : decode prog_142_method_18_code 66 = .ok (.iconst (-1), 1) := by decide +kernel
theorem d6_67 : decode prog_142_method_18_code 67 = .ok (.istore_n 1, 1) := by decide +kernel
theorem d6_68 : decode prog_142_method_18_code 68 = .ok (.iload_n 1, 1) := by decide +kernel
theorem d6_69 : decode prog_142_method_18_code 69 = .ok (.ireturn, 1) := by decide +kernel
set_option maxRecDepth 65536 in
set_option maxHeartbeats 40000000 in
theorem rm6 (l : Launch) (Z : State) (a0 : Array Value) (hw : ∀ d ∈ tables_1, d.before a0 Z = true) (ws : List Jvm.Cond) (p1 : Int32) (h0 : Heap) (n0 : Nat) (Z0 : n0 ≤ h0.size)  :
    MetFree l (⟨"com/example/pandect/pandect/text/TokenReader", "hexDigit", "(I)I"⟩ : MethodName) (head1 (Jvm.Cond.code (⟨"com/example/pandect/pandect/text/TokenReader", "hexDigit", "(I)I"⟩ : MethodName) prog_142_method_18_code 2 (some .int) :: ws) ({ frames := 0, cells := 0, slots := 0, locals := 0 } : Room)) (fun aa U => aa = #[(.int p1)] ∧ Z.Warmed39 U.vm ∧ U.heap = h0) (fun _ _ _ _ _ => True) (fun _ U o U' => ∃ v L, o = .returned v ∧ Q_rm6 Z p1 h0 n0 v U'.heap L ∧ FrameEnd U o U' L ({ frames := 0, cells := 0, slots := 0, locals := 0 } : Room).cells ({ frames := 0, cells := 0, slots := 0, locals := 0 } : Room).slots) := by
  refine MetFree.of_bodySF (plainFor_of_name own_pn2) hisR ?_
  intro p e s m args below meth c s₁ Bd hml0 hP hK
  obtain ⟨rfl, hZ, hh⟩ := hP
  have hx := Bd.exec
  have hby := Bd.bytes
  have hml : c.maxLocals = 2 := hml0
  have hlk : meth.locks = false := BodyLoose.notSynchronized Bd
  have hown : s.vm.findClass "com/example/pandect/pandect/text/TokenReader" = some m.cls := findClass_of_methodNamed Bd.named
  have hnm := (name_of_methodNamed Bd.named Bd.method).1
  have X0 : Stand p l e ({ frames := 0, cells := 0, slots := 0, locals := 0 } : Room) s m #[(.int p1)] below meth c s₁ [] 0 0 := Stand.of_body Bd
  have e0 : s₁.heap = h0 := by rw [← hh, Bd.state]; rfl
  have N0 := Fr.nil n0
  show own_Go p e below s (Q_rm6 Z p1 h0 n0) 0 0 (s₁.setTop (entryFrame m #[(.int p1)] 2))
  refine own_go (B := s₁.setTop (mkF m 0 #[.val (.int p1), .unset] [])) (fun tgt cont => (XT.entry rfl).trans cont) ?_
  refine own_go (B := s₁.setTop (mkF m 3 #[.val (.int p1), .unset] [(.int (48 : Int32)), (.int p1)])) (fun tgt cont => ?_) ?_
  · refine XS.iloadN X0.here hx rfl (hb hby d6_0) rfl ?_
    refine XT.bipushV X0.here hx rfl (48 : Int32) (hb hby d6_1) rfl ?_
    exact cont
  by_cases hc1 : p1 < (48 : Int32)
  ·
    refine own_go (B := s₁.setTop (mkF m 23 #[.val (.int p1), .unset] [(.int (97 : Int32)), (.int p1)])) (fun tgt cont => ?_) ?_
    · refine XS.icmpYes X0.here hx rfl (pc0 := 3) (pc' := 20) rfl (hb hby d6_3) rfl (XT.ii_lt_t hc1) (by decide) (by decide) ?_
      refine XS.iloadN X0.here hx rfl (hb hby d6_20) rfl ?_
      refine XT.bipushV X0.here hx rfl (97 : Int32) (hb hby d6_21) rfl ?_
      exact cont
    by_cases hc2 : p1 < (97 : Int32)
    ·
      refine own_go (B := s₁.setTop (mkF m 46 #[.val (.int p1), .unset] [(.int (65 : Int32)), (.int p1)])) (fun tgt cont => ?_) ?_
      · refine XS.icmpYes X0.here hx rfl (pc0 := 23) (pc' := 43) rfl (hb hby d6_23) rfl (XT.ii_lt_t hc2) (by decide) (by decide) ?_
        refine XS.iloadN X0.here hx rfl (hb hby d6_43) rfl ?_
        refine XT.bipushV X0.here hx rfl (65 : Int32) (hb hby d6_44) rfl ?_
        exact cont
      by_cases hc3 : p1 < (65 : Int32)
      ·
        refine own_go (B := s₁.setTop (mkF m 69 #[.val (.int p1), .val (.int (-1 : Int32))] [(.int (-1 : Int32))])) (fun tgt cont => ?_) ?_
        · refine XS.icmpYes X0.here hx rfl (pc0 := 46) (pc' := 66) rfl (hb hby d6_46) rfl (XT.ii_lt_t hc3) (by decide) (by decide) ?_
          refine XT.iconstV X0.here hx rfl (-1 : Int32) (hb hby d6_66) rfl ?_
          refine XS.istoreN X0.here hx rfl (hb hby d6_67) rfl (l' := #[.val (.int p1), .val (.int (-1 : Int32))]) rfl ?_
          refine XS.iloadN X0.here hx rfl (hb hby d6_68) rfl ?_
          exact cont
        refine own_end X0 (v := some (.int (-1 : Int32))) (fun h => by rw [Bd.returns] at h; cases h) hlk ?_ (by decide) (by decide) (fun fs hl => retI X0 hx Bd.returns (hb hby d6_69) hl)
        exact ⟨(by unfold own_hex; first | (simp only [if_pos hc1, if_pos hc2, if_pos hc3]; done) | (simp only [if_pos hc1, if_pos hc2, if_pos hc3]; exact rfl) | exact rfl), N0, e0⟩
      ·
        refine own_go (B := s₁.setTop (mkF m 52 #[.val (.int p1), .unset] [(.int (70 : Int32)), (.int p1)])) (fun tgt cont => ?_) ?_
        · refine XS.icmpNo X0.here hx rfl (hb hby d6_46) rfl (XT.ii_lt_f hc3) ?_
          refine XS.iloadN X0.here hx rfl (hb hby d6_49) rfl ?_
          refine XT.bipushV X0.here hx rfl (70 : Int32) (hb hby d6_50) rfl ?_
          exact cont
        by_cases hc4 : (70 : Int32) < p1
        ·
          refine own_go (B := s₁.setTop (mkF m 69 #[.val (.int p1), .val (.int (-1 : Int32))] [(.int (-1 : Int32))])) (fun tgt cont => ?_) ?_
          · refine XS.icmpYes X0.here hx rfl (pc0 := 52) (pc' := 66) rfl (hb hby d6_52) rfl (XT.ii_gt_t hc4) (by decide) (by decide) ?_
            refine XT.iconstV X0.here hx rfl (-1 : Int32) (hb hby d6_66) rfl ?_
            refine XS.istoreN X0.here hx rfl (hb hby d6_67) rfl (l' := #[.val (.int p1), .val (.int (-1 : Int32))]) rfl ?_
            refine XS.iloadN X0.here hx rfl (hb hby d6_68) rfl ?_
            exact cont
          refine own_end X0 (v := some (.int (-1 : Int32))) (fun h => by rw [Bd.returns] at h; cases h) hlk ?_ (by decide) (by decide) (fun fs hl => retI X0 hx Bd.returns (hb hby d6_69) hl)
          exact ⟨(by unfold own_hex; first | (simp only [if_pos hc1, if_pos hc2, if_neg hc3, if_pos hc4]; done) | (simp only [if_pos hc1, if_pos hc2, if_neg hc3, if_pos hc4]; exact rfl) | exact rfl), N0, e0⟩
        ·
          refine own_go (B := s₁.setTop (mkF m 69 #[.val (.int p1), .val (.int ((p1 - (65 : Int32)) + (10 : Int32)))] [(.int ((p1 - (65 : Int32)) + (10 : Int32)))])) (fun tgt cont => ?_) ?_
          · refine XS.icmpNo X0.here hx rfl (hb hby d6_52) rfl (XT.ii_gt_f hc4) ?_
            refine XS.iloadN X0.here hx rfl (hb hby d6_55) rfl ?_
            refine XT.bipushV X0.here hx rfl (65 : Int32) (hb hby d6_56) rfl ?_
            refine XS.isub X0.here hx rfl (hb hby d6_58) rfl ?_
            refine XT.bipushV X0.here hx rfl (10 : Int32) (hb hby d6_59) rfl ?_
            refine XS.iadd X0.here hx rfl (hb hby d6_61) rfl ?_
            refine XS.istoreN X0.here hx rfl (hb hby d6_62) rfl (l' := #[.val (.int p1), .val (.int ((p1 - (65 : Int32)) + (10 : Int32)))]) rfl ?_
            refine XS.goto X0.here hx rfl (pc0 := 63) (pc' := 68) rfl (hb hby d6_63) (by decide) (by decide) ?_
            refine XS.iloadN X0.here hx rfl (hb hby d6_68) rfl ?_
            exact cont
          refine own_end X0 (v := some (.int ((p1 - (65 : Int32)) + (10 : Int32)))) (fun h => by rw [Bd.returns] at h; cases h) hlk ?_ (by decide) (by decide) (fun fs hl => retI X0 hx Bd.returns (hb hby d6_69) hl)
          exact ⟨(by unfold own_hex; first | (simp only [if_pos hc1, if_pos hc2, if_neg hc3, if_neg hc4]; done) | (simp only [if_pos hc1, if_pos hc2, if_neg hc3, if_neg hc4]; exact rfl) | exact rfl), N0, e0⟩
    ·
      refine own_go (B := s₁.setTop (mkF m 29 #[.val (.int p1), .unset] [(.int (102 : Int32)), (.int p1)])) (fun tgt cont => ?_) ?_
      · refine XS.icmpNo X0.here hx rfl (hb hby d6_23) rfl (XT.ii_lt_f hc2) ?_
        refine XS.iloadN X0.here hx rfl (hb hby d6_26) rfl ?_
        refine XT.bipushV X0.here hx rfl (102 : Int32) (hb hby d6_27) rfl ?_
        exact cont
      by_cases hc5 : (102 : Int32) < p1
      ·
        refine own_go (B := s₁.setTop (mkF m 46 #[.val (.int p1), .unset] [(.int (65 : Int32)), (.int p1)])) (fun tgt cont => ?_) ?_
        · refine XS.icmpYes X0.here hx rfl (pc0 := 29) (pc' := 43) rfl (hb hby d6_29) rfl (XT.ii_gt_t hc5) (by decide) (by decide) ?_
          refine XS.iloadN X0.here hx rfl (hb hby d6_43) rfl ?_
          refine XT.bipushV X0.here hx rfl (65 : Int32) (hb hby d6_44) rfl ?_
          exact cont
        by_cases hc6 : p1 < (65 : Int32)
        ·
          refine own_go (B := s₁.setTop (mkF m 69 #[.val (.int p1), .val (.int (-1 : Int32))] [(.int (-1 : Int32))])) (fun tgt cont => ?_) ?_
          · refine XS.icmpYes X0.here hx rfl (pc0 := 46) (pc' := 66) rfl (hb hby d6_46) rfl (XT.ii_lt_t hc6) (by decide) (by decide) ?_
            refine XT.iconstV X0.here hx rfl (-1 : Int32) (hb hby d6_66) rfl ?_
            refine XS.istoreN X0.here hx rfl (hb hby d6_67) rfl (l' := #[.val (.int p1), .val (.int (-1 : Int32))]) rfl ?_
            refine XS.iloadN X0.here hx rfl (hb hby d6_68) rfl ?_
            exact cont
          refine own_end X0 (v := some (.int (-1 : Int32))) (fun h => by rw [Bd.returns] at h; cases h) hlk ?_ (by decide) (by decide) (fun fs hl => retI X0 hx Bd.returns (hb hby d6_69) hl)
          exact ⟨(by unfold own_hex; first | (simp only [if_pos hc1, if_neg hc2, if_pos hc5, if_pos hc6]; done) | (simp only [if_pos hc1, if_neg hc2, if_pos hc5, if_pos hc6]; exact rfl) | exact rfl), N0, e0⟩
        ·
          refine own_go (B := s₁.setTop (mkF m 52 #[.val (.int p1), .unset] [(.int (70 : Int32)), (.int p1)])) (fun tgt cont => ?_) ?_
          · refine XS.icmpNo X0.here hx rfl (hb hby d6_46) rfl (XT.ii_lt_f hc6) ?_
            refine XS.iloadN X0.here hx rfl (hb hby d6_49) rfl ?_
            refine XT.bipushV X0.here hx rfl (70 : Int32) (hb hby d6_50) rfl ?_
            exact cont
          by_cases hc7 : (70 : Int32) < p1
          ·
            refine own_go (B := s₁.setTop (mkF m 69 #[.val (.int p1), .val (.int (-1 : Int32))] [(.int (-1 : Int32))])) (fun tgt cont => ?_) ?_
            · refine XS.icmpYes X0.here hx rfl (pc0 := 52) (pc' := 66) rfl (hb hby d6_52) rfl (XT.ii_gt_t hc7) (by decide) (by decide) ?_
              refine XT.iconstV X0.here hx rfl (-1 : Int32) (hb hby d6_66) rfl ?_
              refine XS.istoreN X0.here hx rfl (hb hby d6_67) rfl (l' := #[.val (.int p1), .val (.int (-1 : Int32))]) rfl ?_
              refine XS.iloadN X0.here hx rfl (hb hby d6_68) rfl ?_
              exact cont
            refine own_end X0 (v := some (.int (-1 : Int32))) (fun h => by rw [Bd.returns] at h; cases h) hlk ?_ (by decide) (by decide) (fun fs hl => retI X0 hx Bd.returns (hb hby d6_69) hl)
            exact ⟨(by unfold own_hex; first | (simp only [if_pos hc1, if_neg hc2, if_pos hc5, if_neg hc6, if_pos hc7]; done) | (simp only [if_pos hc1, if_neg hc2, if_pos hc5, if_neg hc6, if_pos hc7]; exact rfl) | exact rfl), N0, e0⟩
          ·
            refine own_go (B := s₁.setTop (mkF m 69 #[.val (.int p1), .val (.int ((p1 - (65 : Int32)) + (10 : Int32)))] [(.int ((p1 - (65 : Int32)) + (10 : Int32)))])) (fun tgt cont => ?_) ?_
            · refine XS.icmpNo X0.here hx rfl (hb hby d6_52) rfl (XT.ii_gt_f hc7) ?_
              refine XS.iloadN X0.here hx rfl (hb hby d6_55) rfl ?_
              refine XT.bipushV X0.here hx rfl (65 : Int32) (hb hby d6_56) rfl ?_
              refine XS.isub X0.here hx rfl (hb hby d6_58) rfl ?_
              refine XT.bipushV X0.here hx rfl (10 : Int32) (hb hby d6_59) rfl ?_
              refine XS.iadd X0.here hx rfl (hb hby d6_61) rfl ?_
              refine XS.istoreN X0.here hx rfl (hb hby d6_62) rfl (l' := #[.val (.int p1), .val (.int ((p1 - (65 : Int32)) + (10 : Int32)))]) rfl ?_
              refine XS.goto X0.here hx rfl (pc0 := 63) (pc' := 68) rfl (hb hby d6_63) (by decide) (by decide) ?_
              refine XS.iloadN X0.here hx rfl (hb hby d6_68) rfl ?_
              exact cont
            refine own_end X0 (v := some (.int ((p1 - (65 : Int32)) + (10 : Int32)))) (fun h => by rw [Bd.returns] at h; cases h) hlk ?_ (by decide) (by decide) (fun fs hl => retI X0 hx Bd.returns (hb hby d6_69) hl)
            exact ⟨(by unfold own_hex; first | (simp only [if_pos hc1, if_neg hc2, if_pos hc5, if_neg hc6, if_neg hc7]; done) | (simp only [if_pos hc1, if_neg hc2, if_pos hc5, if_neg hc6, if_neg hc7]; exact rfl) | exact rfl), N0, e0⟩
      ·
        refine own_go (B := s₁.setTop (mkF m 69 #[.val (.int p1), .val (.int ((p1 - (97 : Int32)) + (10 : Int32)))] [(.int ((p1 - (97 : Int32)) + (10 : Int32)))])) (fun tgt cont => ?_) ?_
        · refine XS.icmpNo X0.here hx rfl (hb hby d6_29) rfl (XT.ii_gt_f hc5) ?_
          refine XS.iloadN X0.here hx rfl (hb hby d6_32) rfl ?_
          refine XT.bipushV X0.here hx rfl (97 : Int32) (hb hby d6_33) rfl ?_
          refine XS.isub X0.here hx rfl (hb hby d6_35) rfl ?_
          refine XT.bipushV X0.here hx rfl (10 : Int32) (hb hby d6_36) rfl ?_
          refine XS.iadd X0.here hx rfl (hb hby d6_38) rfl ?_
          refine XS.istoreN X0.here hx rfl (hb hby d6_39) rfl (l' := #[.val (.int p1), .val (.int ((p1 - (97 : Int32)) + (10 : Int32)))]) rfl ?_
          refine XS.goto X0.here hx rfl (pc0 := 40) (pc' := 68) rfl (hb hby d6_40) (by decide) (by decide) ?_
          refine XS.iloadN X0.here hx rfl (hb hby d6_68) rfl ?_
          exact cont
        refine own_end X0 (v := some (.int ((p1 - (97 : Int32)) + (10 : Int32)))) (fun h => by rw [Bd.returns] at h; cases h) hlk ?_ (by decide) (by decide) (fun fs hl => retI X0 hx Bd.returns (hb hby d6_69) hl)
        exact ⟨(by unfold own_hex; first | (simp only [if_pos hc1, if_neg hc2, if_neg hc5]; done) | (simp only [if_pos hc1, if_neg hc2, if_neg hc5]; exact rfl) | exact rfl), N0, e0⟩
  ·
    refine own_go (B := s₁.setTop (mkF m 9 #[.val (.int p1), .unset] [(.int (57 : Int32)), (.int p1)])) (fun tgt cont => ?_) ?_
    · refine XS.icmpNo X0.here hx rfl (hb hby d6_3) rfl (XT.ii_lt_f hc1) ?_
      refine XS.iloadN X0.here hx rfl (hb hby d6_6) rfl ?_
      refine XT.bipushV X0.here hx rfl (57 : Int32) (hb hby d6_7) rfl ?_
      exact cont
    by_cases hc8 : (57 : Int32) < p1
    ·
      refine own_go (B := s₁.setTop (mkF m 23 #[.val (.int p1), .unset] [(.int (97 : Int32)), (.int p1)])) (fun tgt cont => ?_) ?_
      · refine XS.icmpYes X0.here hx rfl (pc0 := 9) (pc' := 20) rfl (hb hby d6_9) rfl (XT.ii_gt_t hc8) (by decide) (by decide) ?_
        refine XS.iloadN X0.here hx rfl (hb hby d6_20) rfl ?_
        refine XT.bipushV X0.here hx rfl (97 : Int32) (hb hby d6_21) rfl ?_
        exact cont
      by_cases hc9 : p1 < (97 : Int32)
      ·
        refine own_go (B := s₁.setTop (mkF m 46 #[.val (.int p1), .unset] [(.int (65 : Int32)), (.int p1)])) (fun tgt cont => ?_) ?_
        · refine XS.icmpYes X0.here hx rfl (pc0 := 23) (pc' := 43) rfl (hb hby d6_23) rfl (XT.ii_lt_t hc9) (by decide) (by decide) ?_
          refine XS.iloadN X0.here hx rfl (hb hby d6_43) rfl ?_
          refine XT.bipushV X0.here hx rfl (65 : Int32) (hb hby d6_44) rfl ?_
          exact cont
        by_cases hc10 : p1 < (65 : Int32)
        ·
          refine own_go (B := s₁.setTop (mkF m 69 #[.val (.int p1), .val (.int (-1 : Int32))] [(.int (-1 : Int32))])) (fun tgt cont => ?_) ?_
          · refine XS.icmpYes X0.here hx rfl (pc0 := 46) (pc' := 66) rfl (hb hby d6_46) rfl (XT.ii_lt_t hc10) (by decide) (by decide) ?_
            refine XT.iconstV X0.here hx rfl (-1 : Int32) (hb hby d6_66) rfl ?_
            refine XS.istoreN X0.here hx rfl (hb hby d6_67) rfl (l' := #[.val (.int p1), .val (.int (-1 : Int32))]) rfl ?_
            refine XS.iloadN X0.here hx rfl (hb hby d6_68) rfl ?_
            exact cont
          refine own_end X0 (v := some (.int (-1 : Int32))) (fun h => by rw [Bd.returns] at h; cases h) hlk ?_ (by decide) (by decide) (fun fs hl => retI X0 hx Bd.returns (hb hby d6_69) hl)
          exact ⟨(by unfold own_hex; first | (simp only [if_neg hc1, if_pos hc8, if_pos hc9, if_pos hc10]; done) | (simp only [if_neg hc1, if_pos hc8, if_pos hc9, if_pos hc10]; exact rfl) | exact rfl), N0, e0⟩
        ·
          refine own_go (B := s₁.setTop (mkF m 52 #[.val (.int p1), .unset] [(.int (70 : Int32)), (.int p1)])) (fun tgt cont => ?_) ?_
          · refine XS.icmpNo X0.here hx rfl (hb hby d6_46) rfl (XT.ii_lt_f hc10) ?_
            refine XS.iloadN X0.here hx rfl (hb hby d6_49) rfl ?_
            refine XT.bipushV X0.here hx rfl (70 : Int32) (hb hby d6_50) rfl ?_
            exact cont
          by_cases hc11 : (70 : Int32) < p1
          ·
            refine own_go (B := s₁.setTop (mkF m 69 #[.val (.int p1), .val (.int (-1 : Int32))] [(.int (-1 : Int32))])) (fun tgt cont => ?_) ?_
            · refine XS.icmpYes X0.here hx rfl (pc0 := 52) (pc' := 66) rfl (hb hby d6_52) rfl (XT.ii_gt_t hc11) (by decide) (by decide) ?_
              refine XT.iconstV X0.here hx rfl (-1 : Int32) (hb hby d6_66) rfl ?_
              refine XS.istoreN X0.here hx rfl (hb hby d6_67) rfl (l' := #[.val (.int p1), .val (.int (-1 : Int32))]) rfl ?_
              refine XS.iloadN X0.here hx rfl (hb hby d6_68) rfl ?_
              exact cont
            refine own_end X0 (v := some (.int (-1 : Int32))) (fun h => by rw [Bd.returns] at h; cases h) hlk ?_ (by decide) (by decide) (fun fs hl => retI X0 hx Bd.returns (hb hby d6_69) hl)
            exact ⟨(by unfold own_hex; first | (simp only [if_neg hc1, if_pos hc8, if_pos hc9, if_neg hc10, if_pos hc11]; done) | (simp only [if_neg hc1, if_pos hc8, if_pos hc9, if_neg hc10, if_pos hc11]; exact rfl) | exact rfl), N0, e0⟩
          ·
            refine own_go (B := s₁.setTop (mkF m 69 #[.val (.int p1), .val (.int ((p1 - (65 : Int32)) + (10 : Int32)))] [(.int ((p1 - (65 : Int32)) + (10 : Int32)))])) (fun tgt cont => ?_) ?_
            · refine XS.icmpNo X0.here hx rfl (hb hby d6_52) rfl (XT.ii_gt_f hc11) ?_
              refine XS.iloadN X0.here hx rfl (hb hby d6_55) rfl ?_
              refine XT.bipushV X0.here hx rfl (65 : Int32) (hb hby d6_56) rfl ?_
              refine XS.isub X0.here hx rfl (hb hby d6_58) rfl ?_
              refine XT.bipushV X0.here hx rfl (10 : Int32) (hb hby d6_59) rfl ?_
              refine XS.iadd X0.here hx rfl (hb hby d6_61) rfl ?_
              refine XS.istoreN X0.here hx rfl (hb hby d6_62) rfl (l' := #[.val (.int p1), .val (.int ((p1 - (65 : Int32)) + (10 : Int32)))]) rfl ?_
              refine XS.goto X0.here hx rfl (pc0 := 63) (pc' := 68) rfl (hb hby d6_63) (by decide) (by decide) ?_
              refine XS.iloadN X0.here hx rfl (hb hby d6_68) rfl ?_
              exact cont
            refine own_end X0 (v := some (.int ((p1 - (65 : Int32)) + (10 : Int32)))) (fun h => by rw [Bd.returns] at h; cases h) hlk ?_ (by decide) (by decide) (fun fs hl => retI X0 hx Bd.returns (hb hby d6_69) hl)
            exact ⟨(by unfold own_hex; first | (simp only [if_neg hc1, if_pos hc8, if_pos hc9, if_neg hc10, if_neg hc11]; done) | (simp only [if_neg hc1, if_pos hc8, if_pos hc9, if_neg hc10, if_neg hc11]; exact rfl) | exact rfl), N0, e0⟩
      ·
        refine own_go (B := s₁.setTop (mkF m 29 #[.val (.int p1), .unset] [(.int (102 : Int32)), (.int p1)])) (fun tgt cont => ?_) ?_
        · refine XS.icmpNo X0.here hx rfl (hb hby d6_23) rfl (XT.ii_lt_f hc9) ?_
          refine XS.iloadN X0.here hx rfl (hb hby d6_26) rfl ?_
          refine XT.bipushV X0.here hx rfl (102 : Int32) (hb hby d6_27) rfl ?_
          exact cont
        by_cases hc12 : (102 : Int32) < p1
        ·
          refine own_go (B := s₁.setTop (mkF m 46 #[.val (.int p1), .unset] [(.int (65 : Int32)), (.int p1)])) (fun tgt cont => ?_) ?_
          · refine XS.icmpYes X0.here hx rfl (pc0 := 29) (pc' := 43) rfl (hb hby d6_29) rfl (XT.ii_gt_t hc12) (by decide) (by decide) ?_
            refine XS.iloadN X0.here hx rfl (hb hby d6_43) rfl ?_
            refine XT.bipushV X0.here hx rfl (65 : Int32) (hb hby d6_44) rfl ?_
            exact cont
          by_cases hc13 : p1 < (65 : Int32)
          ·
            refine own_go (B := s₁.setTop (mkF m 69 #[.val (.int p1), .val (.int (-1 : Int32))] [(.int (-1 : Int32))])) (fun tgt cont => ?_) ?_
            · refine XS.icmpYes X0.here hx rfl (pc0 := 46) (pc' := 66) rfl (hb hby d6_46) rfl (XT.ii_lt_t hc13) (by decide) (by decide) ?_
              refine XT.iconstV X0.here hx rfl (-1 : Int32) (hb hby d6_66) rfl ?_
              refine XS.istoreN X0.here hx rfl (hb hby d6_67) rfl (l' := #[.val (.int p1), .val (.int (-1 : Int32))]) rfl ?_
              refine XS.iloadN X0.here hx rfl (hb hby d6_68) rfl ?_
              exact cont
            refine own_end X0 (v := some (.int (-1 : Int32))) (fun h => by rw [Bd.returns] at h; cases h) hlk ?_ (by decide) (by decide) (fun fs hl => retI X0 hx Bd.returns (hb hby d6_69) hl)
            exact ⟨(by unfold own_hex; first | (simp only [if_neg hc1, if_pos hc8, if_neg hc9, if_pos hc12, if_pos hc13]; done) | (simp only [if_neg hc1, if_pos hc8, if_neg hc9, if_pos hc12, if_pos hc13]; exact rfl) | exact rfl), N0, e0⟩
          ·
            refine own_go (B := s₁.setTop (mkF m 52 #[.val (.int p1), .unset] [(.int (70 : Int32)), (.int p1)])) (fun tgt cont => ?_) ?_
            · refine XS.icmpNo X0.here hx rfl (hb hby d6_46) rfl (XT.ii_lt_f hc13) ?_
              refine XS.iloadN X0.here hx rfl (hb hby d6_49) rfl ?_
              refine XT.bipushV X0.here hx rfl (70 : Int32) (hb hby d6_50) rfl ?_
              exact cont
            by_cases hc14 : (70 : Int32) < p1
            ·
              refine own_go (B := s₁.setTop (mkF m 69 #[.val (.int p1), .val (.int (-1 : Int32))] [(.int (-1 : Int32))])) (fun tgt cont => ?_) ?_
              · refine XS.icmpYes X0.here hx rfl (pc0 := 52) (pc' := 66) rfl (hb hby d6_52) rfl (XT.ii_gt_t hc14) (by decide) (by decide) ?_
                refine XT.iconstV X0.here hx rfl (-1 : Int32) (hb hby d6_66) rfl ?_
                refine XS.istoreN X0.here hx rfl (hb hby d6_67) rfl (l' := #[.val (.int p1), .val (.int (-1 : Int32))]) rfl ?_
                refine XS.iloadN X0.here hx rfl (hb hby d6_68) rfl ?_
                exact cont
              refine own_end X0 (v := some (.int (-1 : Int32))) (fun h => by rw [Bd.returns] at h; cases h) hlk ?_ (by decide) (by decide) (fun fs hl => retI X0 hx Bd.returns (hb hby d6_69) hl)
              exact ⟨(by unfold own_hex; first | (simp only [if_neg hc1, if_pos hc8, if_neg hc9, if_pos hc12, if_neg hc13, if_pos hc14]; done) | (simp only [if_neg hc1, if_pos hc8, if_neg hc9, if_pos hc12, if_neg hc13, if_pos hc14]; exact rfl) | exact rfl), N0, e0⟩
            ·
              refine own_go (B := s₁.setTop (mkF m 69 #[.val (.int p1), .val (.int ((p1 - (65 : Int32)) + (10 : Int32)))] [(.int ((p1 - (65 : Int32)) + (10 : Int32)))])) (fun tgt cont => ?_) ?_
              · refine XS.icmpNo X0.here hx rfl (hb hby d6_52) rfl (XT.ii_gt_f hc14) ?_
                refine XS.iloadN X0.here hx rfl (hb hby d6_55) rfl ?_
                refine XT.bipushV X0.here hx rfl (65 : Int32) (hb hby d6_56) rfl ?_
                refine XS.isub X0.here hx rfl (hb hby d6_58) rfl ?_
                refine XT.bipushV X0.here hx rfl (10 : Int32) (hb hby d6_59) rfl ?_
                refine XS.iadd X0.here hx rfl (hb hby d6_61) rfl ?_
                refine XS.istoreN X0.here hx rfl (hb hby d6_62) rfl (l' := #[.val (.int p1), .val (.int ((p1 - (65 : Int32)) + (10 : Int32)))]) rfl ?_
                refine XS.goto X0.here hx rfl (pc0 := 63) (pc' := 68) rfl (hb hby d6_63) (by decide) (by decide) ?_
                refine XS.iloadN X0.here hx rfl (hb hby d6_68) rfl ?_
                exact cont
              refine own_end X0 (v := some (.int ((p1 - (65 : Int32)) + (10 : Int32)))) (fun h => by rw [Bd.returns] at h; cases h) hlk ?_ (by decide) (by decide) (fun fs hl => retI X0 hx Bd.returns (hb hby d6_69) hl)
              exact ⟨(by unfold own_hex; first | (simp only [if_neg hc1, if_pos hc8, if_neg hc9, if_pos hc12, if_neg hc13, if_neg hc14]; done) | (simp only [if_neg hc1, if_pos hc8, if_neg hc9, if_pos hc12, if_neg hc13, if_neg hc14]; exact rfl) | exact rfl), N0, e0⟩
        ·
          refine own_go (B := s₁.setTop (mkF m 69 #[.val (.int p1), .val (.int ((p1 - (97 : Int32)) + (10 : Int32)))] [(.int ((p1 - (97 : Int32)) + (10 : Int32)))])) (fun tgt cont => ?_) ?_
          · refine XS.icmpNo X0.here hx rfl (hb hby d6_29) rfl (XT.ii_gt_f hc12) ?_
            refine XS.iloadN X0.here hx rfl (hb hby d6_32) rfl ?_
            refine XT.bipushV X0.here hx rfl (97 : Int32) (hb hby d6_33) rfl ?_
            refine XS.isub X0.here hx rfl (hb hby d6_35) rfl ?_
            refine XT.bipushV X0.here hx rfl (10 : Int32) (hb hby d6_36) rfl ?_
            refine XS.iadd X0.here hx rfl (hb hby d6_38) rfl ?_
            refine XS.istoreN X0.here hx rfl (hb hby d6_39) rfl (l' := #[.val (.int p1), .val (.int ((p1 - (97 : Int32)) + (10 : Int32)))]) rfl ?_
            refine XS.goto X0.here hx rfl (pc0 := 40) (pc' := 68) rfl (hb hby d6_40) (by decide) (by decide) ?_
            refine XS.iloadN X0.here hx rfl (hb hby d6_68) rfl ?_
            exact cont
          refine own_end X0 (v := some (.int ((p1 - (97 : Int32)) + (10 : Int32)))) (fun h => by rw [Bd.returns] at h; cases h) hlk ?_ (by decide) (by decide) (fun fs hl => retI X0 hx Bd.returns (hb hby d6_69) hl)
          exact ⟨(by unfold own_hex; first | (simp only [if_neg hc1, if_pos hc8, if_neg hc9, if_neg hc12]; done) | (simp only [if_neg hc1, if_pos hc8, if_neg hc9, if_neg hc12]; exact rfl) | exact rfl), N0, e0⟩
    ·
      refine own_go (B := s₁.setTop (mkF m 69 #[.val (.int p1), .val (.int (p1 - (48 : Int32)))] [(.int (p1 - (48 : Int32)))])) (fun tgt cont => ?_) ?_
      · refine XS.icmpNo X0.here hx rfl (hb hby d6_9) rfl (XT.ii_gt_f hc8) ?_
        refine XS.iloadN X0.here hx rfl (hb hby d6_12) rfl ?_
        refine XT.bipushV X0.here hx rfl (48 : Int32) (hb hby d6_13) rfl ?_
        refine XS.isub X0.here hx rfl (hb hby d6_15) rfl ?_
        refine XS.istoreN X0.here hx rfl (hb hby d6_16) rfl (l' := #[.val (.int p1), .val (.int (p1 - (48 : Int32)))]) rfl ?_
        refine XS.goto X0.here hx rfl (pc0 := 17) (pc' := 68) rfl (hb hby d6_17) (by decide) (by decide) ?_
        refine XS.iloadN X0.here hx rfl (hb hby d6_68) rfl ?_
        exact cont
      refine own_end X0 (v := some (.int (p1 - (48 : Int32)))) (fun h => by rw [Bd.returns] at h; cases h) hlk ?_ (by decide) (by decide) (fun fs hl => retI X0 hx Bd.returns (hb hby d6_69) hl)
      exact ⟨(by unfold own_hex; first | (simp only [if_neg hc1, if_neg hc8]; done) | (simp only [if_neg hc1, if_neg hc8]; exact rfl) | exact rfl), N0, e0⟩
def own_tx (i : Nat) : String := match tables_1[i]? with
  | some (.stringLink _ _ t) => t
  | _ => ""
theorem own_atoms : ∀ a ∈ Bundle.stringAtoms, a ∈ tables_1 := by decide +kernel
def own_ls7 : List Int32 := [(48 : Int32), (49 : Int32), (50 : Int32), (51 : Int32), (52 : Int32), (53 : Int32), (54 : Int32), (55 : Int32), (56 : Int32), (57 : Int32), (97 : Int32), (98 : Int32), (99 : Int32), (100 : Int32), (101 : Int32), (102 : Int32)]
theorem own_tx7 : (∀ c ∈ (own_tx 0).toList, c.toNat < 256) ∧ (own_tx 0).toList.map (fun c => Value.int (Jvm.Lit.byteI c.toNat.toUInt16)) = own_ls7.map Value.int := by
  constructor
  · decide +kernel
  · decide +kernel
theorem own_tl7 : 4 * (own_tx 0).toList.length ≤ 64 := by decide +kernel
def own_ls15 : List Int32 := [(48 : Int32), (49 : Int32), (50 : Int32), (51 : Int32), (52 : Int32), (53 : Int32), (54 : Int32), (55 : Int32), (56 : Int32), (57 : Int32), (65 : Int32), (66 : Int32), (67 : Int32), (68 : Int32), (69 : Int32), (70 : Int32)]
theorem own_tx15 : (∀ c ∈ (own_tx 33).toList, c.toNat < 256) ∧ (own_tx 33).toList.map (fun c => Value.int (Jvm.Lit.byteI c.toNat.toUInt16)) = own_ls15.map Value.int := by
  constructor
  · decide +kernel
  · decide +kernel
theorem own_tl15 : 4 * (own_tx 33).toList.length ≤ 64 := by decide +kernel
theorem own_tne : own_tx 33 ∉ [own_tx 0] := by decide +kernel
theorem own_16 (y : Int32) : ∃ j : Fin 16, (y &&& (15 : Int32)) = Int32.ofNat j.1 := by
  have q := c_mask y 15 4 (by decide) (by decide)
  generalize y &&& (15 : Int32) = z at *
  refine ⟨⟨z.toInt.toNat, by omega⟩, ?_⟩
  apply Int32.toInt_inj.mp
  rw [Int32.toInt_ofNat_of_lt (by show z.toInt.toNat < _; omega)]
  show z.toInt = ((z.toInt.toNat : Nat) : Int)
  omega
theorem own_kL : ∀ j : Fin 16, ¬ Int32.ofNat j.1 < 0 ∧ Int32.ofNat j.1 < Int32.ofNat own_ls7.length ∧ (¬ Int32.ofNat j.1 < 0 ∧ (Int32.ofNat j.1).toNatClampNeg < own_ls7.length) := by decide +kernel
theorem own_kU : ∀ j : Fin 16, ¬ Int32.ofNat j.1 < 0 ∧ Int32.ofNat j.1 < Int32.ofNat own_ls15.length ∧ (¬ Int32.ofNat j.1 < 0 ∧ (Int32.ofNat j.1).toNatClampNeg < own_ls15.length) := by decide +kernel
theorem own_hL : ∀ j : Fin 16, own_hex (own_cha_r (Int32.ofNat j.1) own_ls7) = Int32.ofNat j.1 := by decide +kernel
theorem own_hU : ∀ j : Fin 16, own_hex (own_cha_r (Int32.ofNat j.1) own_ls15) = Int32.ofNat j.1 := by decide +kernel
theorem own_tab : ∀ j : Fin 16, (Int32.ofNat j.1).toInt = j.1 ∧ (own_cha_r (Int32.ofNat j.1) own_ls7).toInt = (if j.1 < 10 then 48 + (j.1 : Int) else 87 + j.1) ∧ (own_cha_r (Int32.ofNat j.1) own_ls15).toInt = (if j.1 < 10 then 48 + (j.1 : Int) else 55 + j.1) := by decide +kernel
theorem own_hexV (c : Int32) : (own_hex c).toInt = if 48 ≤ c.toInt ∧ c.toInt ≤ 57 then c.toInt - 48 else if 97 ≤ c.toInt ∧ c.toInt ≤ 102 then c.toInt - 87 else if 65 ≤ c.toInt ∧ c.toInt ≤ 70 then c.toInt - 55 else -1 := by
  have e48 : (48 : Int32).toInt = 48 := rfl
  have e57 : (57 : Int32).toInt = 57 := rfl
  have e97 : (97 : Int32).toInt = 97 := rfl
  have e102 : (102 : Int32).toInt = 102 := rfl
  have e65 : (65 : Int32).toInt = 65 := rfl
  have e70 : (70 : Int32).toInt = 70 := rfl
  have e10 : (10 : Int32).toInt = 10 := rfl
  have em : (-1 : Int32).toInt = -1 := rfl
  have a1 := c_isub c 48
  have a2 := c_isub c 97
  have a3 := c_isub c 65
  have b2 := c_iadd (c - 97) 10
  have b3 := c_iadd (c - 65) 10
  have r := rng32 c
  have r1 := rng32 (c - 48)
  have r2 := rng32 (c - 97)
  have r3 := rng32 (c - 65)
  have r4 := rng32 (c - 97 + 10)
  have r5 := rng32 (c - 65 + 10)
  unfold own_hex
  simp only [Int32.lt_iff_toInt_lt, e48, e57, e97, e102, e65, e70] at *
  generalize c - 97 + 10 = y2 at *
  generalize c - 65 + 10 = y3 at *
  generalize c - 48 = x1 at *
  generalize c - 97 = x2 at *
  generalize c - 65 = x3 at *
  repeat' split
  all_goals (first | omega | (rw [em]; omega))
theorem own_hexR (c : Int32) : ¬ own_hex c < (-1 : Int32) ∧ ¬ (15 : Int32) < own_hex c := by
  have h := own_hexV c
  have em : (-1 : Int32).toInt = -1 := rfl
  have e15 : (15 : Int32).toInt = 15 := rfl
  rw [Int32.lt_iff_toInt_lt, Int32.lt_iff_toInt_lt, em, e15, h]
  generalize c.toInt = i at *
  constructor <;> (repeat' split) <;> omega
theorem own_hexN (c : Int32) (j : Fin 16) (h1 : ¬ c = own_cha_r (Int32.ofNat j.1) own_ls7) (h2 : ¬ c = own_cha_r (Int32.ofNat j.1) own_ls15) : ¬ own_hex c = Int32.ofNat j.1 := by
  intro e
  have v := own_hexV c
  obtain ⟨t0, t1, t2⟩ := own_tab j
  rw [e, t0] at v
  have n1 : c.toInt ≠ (own_cha_r (Int32.ofNat j.1) own_ls7).toInt := fun q => h1 (Int32.toInt_inj.mp q)
  have n2 : c.toInt ≠ (own_cha_r (Int32.ofNat j.1) own_ls15).toInt := fun q => h2 (Int32.toInt_inj.mp q)
  rw [t1] at n1
  rw [t2] at n2
  have hj := j.2
  generalize c.toInt = i at *
  generalize j.1 = k at *
  repeat' split at n1
  all_goals (repeat' split at n2)
  all_goals (repeat' split at v)
  all_goals omega
def Q0 (n0 : Nat) (v : Option Value) (h : Heap) (L : List Loc) : Prop := v = some (.int (1 : Int32)) ∧ Fr n0 L
theorem own_pn3 : plainName "com/example/pandect/pandect/text/TokenReaderHexDigitPinLaw" = true := by first | (simp [plainName, overriddenIn]; done) | decide +kernel
theorem own_pd4 : parseMethodDescriptor "(I)C" = some ⟨[.int], some .char⟩ := by decide +kernel
theorem own_pd5 : parseMethodDescriptor "(I)I" = some ⟨[.int], some .int⟩ := by decide +kernel
set_option maxRecDepth 65536 in
set_option maxHeartbeats 40000000 in
theorem rm0 (l : Launch) (Z : State) (a0 : Array Value) (hw : ∀ d ∈ tables_1, d.before a0 Z = true) (ws : List Jvm.Cond) (p1 : Int32) (p2 : Int32) (z : Int32) (fm : Value) (h0 : Heap) (n0 : Nat) (Z0 : n0 ≤ h0.size) (S_COMPACT_STRINGS : Sta Z h0 "java/lang/String" "COMPACT_STRINGS" "Z" (.int z)) (S_SIOOBE_FORMATTER : Sta Z h0 "jdk/internal/util/Preconditions" "SIOOBE_FORMATTER" "Ljava/util/function/BiFunction;" fm) (hz : ¬ z = 0) (rf : fm.isRef = true) (hh7 : Jvm.Lit.constHeld Z "com/example/pandect/pandect/text/TokenReaderHexDigitPinLaw" 7) (hh15 : Jvm.Lit.constHeld Z "com/example/pandect/pandect/text/TokenReaderHexDigitPinLaw" 15) (hcw : Jvm.Lit.compactW.before a0 Z = true) :
    MetFree l x (head1 (Jvm.Cond.code x code maxLocals ret :: ws) room_1) (fun aa U => aa = #[(.int p1), (.int p2)] ∧ Z.Warmed39 U.vm ∧ U.heap = h0 ∧ Z = U ∧ U.heap.size = n0) (fun _ _ _ _ _ => True) (fun _ U o U' => ∃ v L, o = .returned v ∧ Q0 n0 v U'.heap L ∧ ReturnedEndW U o U' L room_1.cells room_1.slots) := by
  refine MetFree.of_bodySF (plainFor_of_name own_pn3) hisR ?_
  intro p e s m args below meth c s₁ Bd hml0 hP hK
  obtain ⟨rfl, hZ, hh, hZs, hn0⟩ := hP
  have hx := Bd.exec
  have hby := Bd.bytes
  have hml : c.maxLocals = 11 := hml0
  have hlk : meth.locks = false := BodyLoose.notSynchronized Bd
  have hown : s.vm.findClass "com/example/pandect/pandect/text/TokenReaderHexDigitPinLaw" = some m.cls := findClass_of_methodNamed Bd.named
  have hnm := (name_of_methodNamed Bd.named Bd.method).1
  have X0 : Stand p l e room_1 s m #[(.int p1), (.int p2)] below meth c s₁ [] 0 0 := Stand.of_body Bd
  have e0 : s₁.heap = h0 := by rw [← hh, Bd.state]; rfl
  have N0 := Fr.nil n0
  show own_GoW p e below s (Q0 n0) room_1.cells room_1.slots (s₁.setTop (entryFrame m #[(.int p1), (.int p2)] maxLocals))
  refine own_goW (B := s₁.setTop (mkF m 0 #[.val (.int p1), .val (.int p2), .unset, .unset, .unset, .unset, .unset, .unset, .unset, .unset, .unset] [])) (fun tgt cont => (XT.entry rfl).trans cont) ?_
  refine own_goW (B := s₁.setTop (mkF m 4 #[.val (.int p1), .val (.int p2), .unset, .unset, .unset, .unset, .unset, .unset, .unset, .unset, .unset] [(.int (p2 &&& (15 : Int32)))])) (fun tgt cont => ?_) ?_
  · refine XS.iloadN X0.here hx rfl (hb hby at_0) rfl ?_
    refine XT.bipushV X0.here hx rfl (15 : Int32) (hb hby at_1) rfl ?_
    refine XS.iand X0.here hx rfl (hb hby at_3) rfl ?_
    exact cont
  generalize hv1 : (p2 &&& (15 : Int32)) = v1
  refine own_goW (B := s₁.setTop (mkF m 5 #[.val (.int p1), .val (.int p2), .val (.int v1), .unset, .unset, .unset, .unset, .unset, .unset, .unset, .unset] [])) (fun tgt cont => ?_) ?_
  · refine XS.istoreN X0.here hx rfl (hb hby at_4) rfl (l' := #[.val (.int p1), .val (.int p2), .val (.int v1), .unset, .unset, .unset, .unset, .unset, .unset, .unset, .unset]) rfl ?_
    exact cont
  obtain ⟨j, hj⟩ : ∃ j : Fin 16, v1 = Int32.ofNat j.1 := by rw [← hv1]; exact own_16 p2
  obtain ⟨a2, T2, h2, k2, b2, c2, X2, e2, E2, S2, q2, hZ, hown, x2, fc2, fv2, av2, -, -, IB2, st2⟩ := ldcSV (s := s) (vm0 := s.vm) (text := own_tx 0) X0 hx hZ hown (hw _ (List.mem_of_getElem? (i := 0) rfl)) (fun a ha => hw a (own_atoms a ha)) e0 ((State.WarmedH.refl s).since 0) (Nat.zero_le _) (by rw [hn0]; exact N0) (by rw [hZs]; exact fun _ _ h => h) (by rw [hZs]; exact IB.start) (by simp) hh7 hcw (z := 16) own_tx7 (by decide) rfl (g := (mkF m 5 #[.val (.int p1), .val (.int p2), .val (.int v1), .unset, .unset, .unset, .unset, .unset, .unset, .unset, .unset] [])) rfl (hb hby at_5) (n := 64) own_tl7 (by decide) (by decide) (by decide)
  have ab2 : own_BA Z h2 b2 own_ls7 := own_BA_of av2 rfl rfl (by decide)
  have kk2 : Keep h0 h2 [] := (Keep.refl h0 []).ext E2
  have zp2 : n0 ≤ h2.size := Nat.le_trans Z0 kk2.1
  refine own_goW (fun tgt cont => st2 tgt cont) ?_
  show own_GoW p e below s (Q0 n0) room_1.cells room_1.slots (T2.setTop (mkF m 7 #[.val (.int p1), .val (.int p2), .val (.int v1), .unset, .unset, .unset, .unset, .unset, .unset, .unset, .unset] [(.ref a2)]))
  refine own_goW (B := T2.setTop (mkF m 8 #[.val (.int p1), .val (.int p2), .val (.int v1), .unset, .unset, .unset, .unset, .unset, .unset, .unset, .unset] [(.int v1), (.ref a2)])) (fun tgt cont => ?_) ?_
  · refine XS.iloadN X2.here hx rfl (hb hby at_7) rfl ?_
    exact cont
  -- pc 8: String.charAt
  have f4 := (S_COMPACT_STRINGS.ext E2)
  have f5 := (S_SIOOBE_FORMATTER.ext E2)
  obtain ⟨cq3, kq3, qa3, qb3, qc3⟩ := isOf hZ e2 x2
  obtain ⟨_, _, ⟨T3, L3, k3, n3⟩, -, X3, ⟨Lc3, hQ3, l3, y3, z3⟩, st3⟩ := X2.virtualBack hx (y := (⟨"java/lang/String", "charAt", "(I)C"⟩ : MethodName)) (z := (⟨"java/lang/String", "charAt", "(I)C"⟩ : MethodName)) hown (mvT hZ (hw _ (List.mem_of_getElem? (i := 8) rfl))) (mvT hZ (hw _ (List.mem_of_getElem? (i := 9) rfl))) (notFace_of_selects (args := #[]) (mvT hZ (hw _ (List.mem_of_getElem? (i := 11) rfl)))) (mvT hZ (hw _ (List.mem_of_getElem? (i := 11) rfl))) (mvT hZ (hw _ (List.mem_of_getElem? (i := 10) rfl))) (by decide) (backOf (W := 0) (rm1 l Z a0 hw [] a2 v1 b2 own_ls7 z fm h2 n0 zp2 x2 fv2 fc2 ab2 f4 f5 hz rf (by rw [hj]; exact (own_kL j).1) (by rw [hj]; exact (own_kL j).2.1) (by rw [hj]; exact (own_kL j).2.2)) hZ (hw _ (List.mem_of_getElem? (i := 12) rfl)) (hw _ (List.mem_of_getElem? (i := 1) rfl)) (by decide) (by decide)) qa3 qc3 (g := (mkF m 8 #[.val (.int p1), .val (.int p2), .val (.int v1), .unset, .unset, .unset, .unset, .unset, .unset, .unset, .unset] [(.int v1), (.ref a2)])) rfl (by rw [hml]; rfl) (Steps.refl _) (argsL := [(.int v1)]) (rest := []) (lenOf own_pd4 rfl) rfl (by show 2 * 0 + _ ≤ _; exact Nat.le_of_eq rfl) (hb hby at_8) (fun _ _ => ⟨rfl, e2, (by decide : 0 + 2 + 0 ≤ _), (by decide : 0 + 68 + 0 ≤ _)⟩)
  dsimp only [Pt.U, Pt.locs, Pt.cells, Pt.slots] at X3 l3 y3 z3 st3 hQ3
  subst l3 y3 z3
  obtain ⟨rfl, N3q, e3⟩ := hQ3
  have N3 := Fr.app N0 N3q
  refine own_goW (fun tgt cont => st3.trans cont) ?_
  show own_GoW p e below s (Q0 n0) room_1.cells room_1.slots (T3.setTop (mkF m 11 #[.val (.int p1), .val (.int p2), .val (.int v1), .unset, .unset, .unset, .unset, .unset, .unset, .unset, .unset] [(.int (own_cha_r v1 own_ls7))]))
  generalize hr6 : (own_cha_r v1 own_ls7) = r6
  refine own_goW (B := T3.setTop (mkF m 12 #[.val (.int p1), .val (.int p2), .val (.int v1), .val (.int r6), .unset, .unset, .unset, .unset, .unset, .unset, .unset] [])) (fun tgt cont => ?_) ?_
  · refine XS.istoreN X3.here hx rfl (hb hby at_11) rfl (l' := #[.val (.int p1), .val (.int p2), .val (.int v1), .val (.int r6), .unset, .unset, .unset, .unset, .unset, .unset, .unset]) rfl ?_
    exact cont
  obtain ⟨a7, T7, h7, k7, b7, c7, X7, e7, E7, S7, q7, hZ, hown, x7, fc7, fv7, av7, -, -, IB7, st7⟩ := ldcSV (s := s) (vm0 := T2.vm) (text := own_tx 33) X3 hx hZ hown (hw _ (List.mem_of_getElem? (i := 33) rfl)) (fun a ha => hw a (own_atoms a ha)) e3 S2 q2 (by rw [hn0]; exact N3) (by rw [hZs]; exact fun _ _ h => h) IB2 own_tne hh15 hcw (z := 16) own_tx15 (by decide) rfl (g := (mkF m 12 #[.val (.int p1), .val (.int p2), .val (.int v1), .val (.int r6), .unset, .unset, .unset, .unset, .unset, .unset, .unset] [])) rfl (hb hby at_12) (n := 64) own_tl15 (by decide) (by decide) (by decide)
  have ab7 : own_BA Z h7 b7 own_ls15 := own_BA_of av7 rfl rfl (by decide)
  have kk7 : Keep h0 h7 [] := kk2.ext E7
  have zp7 : n0 ≤ h7.size := Nat.le_trans Z0 kk7.1
  refine own_goW (fun tgt cont => st7 tgt cont) ?_
  show own_GoW p e below s (Q0 n0) room_1.cells room_1.slots (T7.setTop (mkF m 14 #[.val (.int p1), .val (.int p2), .val (.int v1), .val (.int r6), .unset, .unset, .unset, .unset, .unset, .unset, .unset] [(.ref a7)]))
  refine own_goW (B := T7.setTop (mkF m 15 #[.val (.int p1), .val (.int p2), .val (.int v1), .val (.int r6), .unset, .unset, .unset, .unset, .unset, .unset, .unset] [(.int v1), (.ref a7)])) (fun tgt cont => ?_) ?_
  · refine XS.iloadN X7.here hx rfl (hb hby at_14) rfl ?_
    exact cont
  -- pc 15: String.charAt
  have f9 := (f4.ext E7)
  have f10 := (f5.ext E7)
  obtain ⟨cq8, kq8, qa8, qb8, qc8⟩ := isOf hZ e7 x7
  obtain ⟨_, _, ⟨T8, L8, k8, n8⟩, -, X8, ⟨Lc8, hQ8, l8, y8, z8⟩, st8⟩ := X7.virtualBack hx (y := (⟨"java/lang/String", "charAt", "(I)C"⟩ : MethodName)) (z := (⟨"java/lang/String", "charAt", "(I)C"⟩ : MethodName)) hown (mvT hZ (hw _ (List.mem_of_getElem? (i := 8) rfl))) (mvT hZ (hw _ (List.mem_of_getElem? (i := 9) rfl))) (notFace_of_selects (args := #[]) (mvT hZ (hw _ (List.mem_of_getElem? (i := 11) rfl)))) (mvT hZ (hw _ (List.mem_of_getElem? (i := 11) rfl))) (mvT hZ (hw _ (List.mem_of_getElem? (i := 10) rfl))) (by decide) (backOf (W := 0) (rm1 l Z a0 hw [] a7 v1 b7 own_ls15 z fm h7 n0 zp7 x7 fv7 fc7 ab7 f9 f10 hz rf (by rw [hj]; exact (own_kU j).1) (by rw [hj]; exact (own_kU j).2.1) (by rw [hj]; exact (own_kU j).2.2)) hZ (hw _ (List.mem_of_getElem? (i := 12) rfl)) (hw _ (List.mem_of_getElem? (i := 1) rfl)) (by decide) (by decide)) qa8 qc8 (g := (mkF m 15 #[.val (.int p1), .val (.int p2), .val (.int v1), .val (.int r6), .unset, .unset, .unset, .unset, .unset, .unset, .unset] [(.int v1), (.ref a7)])) rfl (by rw [hml]; rfl) (Steps.refl _) (argsL := [(.int v1)]) (rest := []) (lenOf own_pd4 rfl) rfl (by show 2 * 0 + _ ≤ _; exact Nat.le_of_eq rfl) (hb hby at_15) (fun _ _ => ⟨rfl, e7, (by decide : 0 + 2 + 0 + 2 + 0 ≤ _), (by decide : 0 + 68 + 0 + 68 + 0 ≤ _)⟩)
  dsimp only [Pt.U, Pt.locs, Pt.cells, Pt.slots] at X8 l8 y8 z8 st8 hQ8
  subst l8 y8 z8
  obtain ⟨rfl, N8q, e8⟩ := hQ8
  have N8 := Fr.app N3 N8q
  refine own_goW (fun tgt cont => st8.trans cont) ?_
  show own_GoW p e below s (Q0 n0) room_1.cells room_1.slots (T8.setTop (mkF m 18 #[.val (.int p1), .val (.int p2), .val (.int v1), .val (.int r6), .unset, .unset, .unset, .unset, .unset, .unset, .unset] [(.int (own_cha_r v1 own_ls15))]))
  generalize hr11 : (own_cha_r v1 own_ls15) = r11
  refine own_goW (B := T8.setTop (mkF m 21 #[.val (.int p1), .val (.int p2), .val (.int v1), .val (.int r6), .val (.int r11), .unset, .unset, .unset, .unset, .unset, .unset] [(.int p1)])) (fun tgt cont => ?_) ?_
  · refine XS.istore X8.here hx rfl (hb hby at_18) rfl (l' := #[.val (.int p1), .val (.int p2), .val (.int v1), .val (.int r6), .val (.int r11), .unset, .unset, .unset, .unset, .unset, .unset]) rfl ?_
    refine XS.iloadN X8.here hx rfl (hb hby at_20) rfl ?_
    exact cont
  -- pc 21: TokenReader.hexDigit
  obtain ⟨_, _, ⟨T12, L12, k12, n12⟩, -, X12, ⟨Lc12, hQ12, l12, y12, z12⟩, st12⟩ := Jvm.LawKit.callS X8 hx (y := (⟨"com/example/pandect/pandect/text/TokenReader", "hexDigit", "(I)I"⟩ : MethodName)) hown (mvT hZ (hw _ (List.mem_of_getElem? (i := 34) rfl))) (mvT hZ (hw _ (List.mem_of_getElem? (i := 35) rfl))) (mvT hZ (hw _ (List.mem_of_getElem? (i := 36) rfl))) (mvT hZ (hw _ (List.mem_of_getElem? (i := 37) rfl))) (by decide) (backOf (W := 0) (rm6 l Z a0 hw [] p1 h7 n0 zp7 ) hZ (hw _ (List.mem_of_getElem? (i := 37) rfl)) (hw _ (List.mem_of_getElem? (i := 36) rfl)) (by decide) (by decide)) (g := (mkF m 21 #[.val (.int p1), .val (.int p2), .val (.int v1), .val (.int r6), .val (.int r11), .unset, .unset, .unset, .unset, .unset, .unset] [(.int p1)])) rfl (by rw [hml]; rfl) (argsL := [(.int p1)]) (rest := []) (lenOf own_pd5 rfl) rfl (by show 2 * 0 + _ ≤ _; exact Nat.le_of_eq rfl) (hb hby at_21) (fun _ _ => ⟨rfl, e8, (by decide : 0 + 2 + 0 + 2 + 0 + 0 ≤ _), (by decide : 0 + 68 + 0 + 68 + 0 + 0 ≤ _)⟩)
  dsimp only [Pt.U, Pt.locs, Pt.cells, Pt.slots] at X12 l12 y12 z12 st12 hQ12
  subst l12 y12 z12
  obtain ⟨rfl, N12q, e12⟩ := hQ12
  have N12 := Fr.app N8 N12q
  refine own_goW (fun tgt cont => st12 tgt cont) ?_
  show own_GoW p e below s (Q0 n0) room_1.cells room_1.slots (T12.setTop (mkF m 24 #[.val (.int p1), .val (.int p2), .val (.int v1), .val (.int r6), .val (.int r11), .unset, .unset, .unset, .unset, .unset, .unset] [(.int (own_hex p1))]))
  generalize hr13 : (own_hex p1) = r13
  refine own_goW (B := T12.setTop (mkF m 46 #[.val (.int p1), .val (.int p2), .val (.int v1), .val (.int r6), .val (.int r11), .val (.int r13), .val (.int (1 : Int32)), .unset, .unset, .unset, .unset] [])) (fun tgt cont => ?_) ?_
  · refine XS.istore X12.here hx rfl (hb hby at_24) rfl (l' := #[.val (.int p1), .val (.int p2), .val (.int v1), .val (.int r6), .val (.int r11), .val (.int r13), .unset, .unset, .unset, .unset, .unset]) rfl ?_
    refine XS.iload X12.here hx rfl (hb hby at_26) rfl ?_
    refine XT.iconstV X12.here hx rfl (-1 : Int32) (hb hby at_28) rfl ?_
    refine XS.icmpNo X12.here hx rfl (hb hby at_29) rfl (XT.ii_lt_f (by rw [← hr13]; exact (own_hexR p1).1)) ?_
    refine XS.iload X12.here hx rfl (hb hby at_32) rfl ?_
    refine XT.bipushV X12.here hx rfl (15 : Int32) (hb hby at_34) rfl ?_
    refine XS.icmpNo X12.here hx rfl (hb hby at_36) rfl (XT.ii_gt_f (by rw [← hr13]; exact (own_hexR p1).2)) ?_
    refine XT.iconstV X12.here hx rfl (1 : Int32) (hb hby at_39) rfl ?_
    refine XS.goto X12.here hx rfl (pc0 := 40) (pc' := 44) rfl (hb hby at_40) (by decide) (by decide) ?_
    refine XS.istore X12.here hx rfl (hb hby at_44) rfl (l' := #[.val (.int p1), .val (.int p2), .val (.int v1), .val (.int r6), .val (.int r11), .val (.int r13), .val (.int (1 : Int32)), .unset, .unset, .unset, .unset]) rfl ?_
    exact cont
  refine own_goW (B := T12.setTop (mkF m 48 #[.val (.int p1), .val (.int p2), .val (.int v1), .val (.int r6), .val (.int r11), .val (.int r13), .val (.int (1 : Int32)), .unset, .unset, .unset, .unset] [(.int r6), (.int p1)])) (fun tgt cont => ?_) ?_
  · refine XS.iloadN X12.here hx rfl (hb hby at_46) rfl ?_
    refine XS.iloadN X12.here hx rfl (hb hby at_47) rfl ?_
    exact cont
  by_cases hc14 : p1 = r6
  ·
    refine own_goW (B := T12.setTop (mkF m 76 #[.val (.int p1), .val (.int p2), .val (.int v1), .val (.int r6), .val (.int r11), .val (.int r13), .val (.int (1 : Int32)), .val (.int (1 : Int32)), .unset, .unset, .unset] [(.int (1 : Int32))])) (fun tgt cont => ?_) ?_
    · refine XS.icmpYes X12.here hx rfl (pc0 := 48) (pc' := 57) rfl (hb hby at_48) rfl (XT.ii_eq_t hc14) (by decide) (by decide) ?_
      refine XT.iconstV X12.here hx rfl (1 : Int32) (hb hby at_57) rfl ?_
      refine XS.goto X12.here hx rfl (pc0 := 58) (pc' := 62) rfl (hb hby at_58) (by decide) (by decide) ?_
      refine XS.istore X12.here hx rfl (hb hby at_62) rfl (l' := #[.val (.int p1), .val (.int p2), .val (.int v1), .val (.int r6), .val (.int r11), .val (.int r13), .val (.int (1 : Int32)), .val (.int (1 : Int32)), .unset, .unset, .unset]) rfl ?_
      refine XS.iload X12.here hx rfl (hb hby at_64) rfl ?_
      refine XS.ifNo X12.here hx rfl (hb hby at_66) rfl (XT.i0_eq_f (by first | decide | exact (show ¬ ((1 : Int32) = 0) from by decide))) ?_
      refine XS.iload X12.here hx rfl (hb hby at_69) rfl ?_
      refine XS.iloadN X12.here hx rfl (hb hby at_71) rfl ?_
      refine XS.icmpNo X12.here hx rfl (hb hby at_72) rfl (XT.ii_ne_f (by rw [← hr13, hc14, ← hr6, hj]; exact own_hL j)) ?_
      refine XT.iconstV X12.here hx rfl (1 : Int32) (hb hby at_75) rfl ?_
      exact cont
    refine own_goW (B := T12.setTop (mkF m 97 #[.val (.int p1), .val (.int p2), .val (.int v1), .val (.int r6), .val (.int r11), .val (.int r13), .val (.int (1 : Int32)), .val (.int (1 : Int32)), .val (.int (1 : Int32)), .unset, .unset] [(.int r6)])) (fun tgt cont => ?_) ?_
    · refine XS.goto X12.here hx rfl (pc0 := 76) (pc' := 94) rfl (hb hby at_76) (by decide) (by decide) ?_
      refine XS.istore X12.here hx rfl (hb hby at_94) rfl (l' := #[.val (.int p1), .val (.int p2), .val (.int v1), .val (.int r6), .val (.int r11), .val (.int r13), .val (.int (1 : Int32)), .val (.int (1 : Int32)), .val (.int (1 : Int32)), .unset, .unset]) rfl ?_
      refine XS.iloadN X12.here hx rfl (hb hby at_96) rfl ?_
      exact cont
    -- pc 97: TokenReader.hexDigit
    obtain ⟨_, _, ⟨T15, L15, k15, n15⟩, -, X15, ⟨Lc15, hQ15, l15, y15, z15⟩, st15⟩ := Jvm.LawKit.callS X12 hx (y := (⟨"com/example/pandect/pandect/text/TokenReader", "hexDigit", "(I)I"⟩ : MethodName)) hown (mvT hZ (hw _ (List.mem_of_getElem? (i := 34) rfl))) (mvT hZ (hw _ (List.mem_of_getElem? (i := 35) rfl))) (mvT hZ (hw _ (List.mem_of_getElem? (i := 36) rfl))) (mvT hZ (hw _ (List.mem_of_getElem? (i := 37) rfl))) (by decide) (backOf (W := 0) (rm6 l Z a0 hw [] r6 h7 n0 zp7 ) hZ (hw _ (List.mem_of_getElem? (i := 37) rfl)) (hw _ (List.mem_of_getElem? (i := 36) rfl)) (by decide) (by decide)) (g := (mkF m 97 #[.val (.int p1), .val (.int p2), .val (.int v1), .val (.int r6), .val (.int r11), .val (.int r13), .val (.int (1 : Int32)), .val (.int (1 : Int32)), .val (.int (1 : Int32)), .unset, .unset] [(.int r6)])) rfl (by rw [hml]; rfl) (argsL := [(.int r6)]) (rest := []) (lenOf own_pd5 rfl) rfl (by show 2 * 0 + _ ≤ _; exact Nat.le_of_eq rfl) (hb hby at_97) (fun _ _ => ⟨rfl, e12, (by decide : 0 + 2 + 0 + 2 + 0 + 0 + 0 ≤ _), (by decide : 0 + 68 + 0 + 68 + 0 + 0 + 0 ≤ _)⟩)
    dsimp only [Pt.U, Pt.locs, Pt.cells, Pt.slots] at X15 l15 y15 z15 st15 hQ15
    subst l15 y15 z15
    obtain ⟨rfl, N15q, e15⟩ := hQ15
    have N15 := Fr.app N12 N15q
    refine own_goW (fun tgt cont => st15 tgt cont) ?_
    show own_GoW p e below s (Q0 n0) room_1.cells room_1.slots (T15.setTop (mkF m 100 #[.val (.int p1), .val (.int p2), .val (.int v1), .val (.int r6), .val (.int r11), .val (.int r13), .val (.int (1 : Int32)), .val (.int (1 : Int32)), .val (.int (1 : Int32)), .unset, .unset] [(.int (own_hex r6))]))
    generalize hr16 : (own_hex r6) = r16
    refine own_goW (B := T15.setTop (mkF m 113 #[.val (.int p1), .val (.int p2), .val (.int v1), .val (.int r6), .val (.int r11), .val (.int r13), .val (.int (1 : Int32)), .val (.int (1 : Int32)), .val (.int (1 : Int32)), .val (.int (1 : Int32)), .unset] [(.int r11)])) (fun tgt cont => ?_) ?_
    · refine XS.iloadN X15.here hx rfl (hb hby at_100) rfl ?_
      refine XS.icmpNo X15.here hx rfl (hb hby at_101) rfl (XT.ii_ne_f (by rw [← hr16, ← hr6, hj]; exact own_hL j)) ?_
      refine XT.iconstV X15.here hx rfl (1 : Int32) (hb hby at_104) rfl ?_
      refine XS.goto X15.here hx rfl (pc0 := 105) (pc' := 109) rfl (hb hby at_105) (by decide) (by decide) ?_
      refine XS.istore X15.here hx rfl (hb hby at_109) rfl (l' := #[.val (.int p1), .val (.int p2), .val (.int v1), .val (.int r6), .val (.int r11), .val (.int r13), .val (.int (1 : Int32)), .val (.int (1 : Int32)), .val (.int (1 : Int32)), .val (.int (1 : Int32)), .unset]) rfl ?_
      refine XS.iload X15.here hx rfl (hb hby at_111) rfl ?_
      exact cont
    -- pc 113: TokenReader.hexDigit
    obtain ⟨_, _, ⟨T17, L17, k17, n17⟩, -, X17, ⟨Lc17, hQ17, l17, y17, z17⟩, st17⟩ := Jvm.LawKit.callS X15 hx (y := (⟨"com/example/pandect/pandect/text/TokenReader", "hexDigit", "(I)I"⟩ : MethodName)) hown (mvT hZ (hw _ (List.mem_of_getElem? (i := 34) rfl))) (mvT hZ (hw _ (List.mem_of_getElem? (i := 35) rfl))) (mvT hZ (hw _ (List.mem_of_getElem? (i := 36) rfl))) (mvT hZ (hw _ (List.mem_of_getElem? (i := 37) rfl))) (by decide) (backOf (W := 0) (rm6 l Z a0 hw [] r11 h7 n0 zp7 ) hZ (hw _ (List.mem_of_getElem? (i := 37) rfl)) (hw _ (List.mem_of_getElem? (i := 36) rfl)) (by decide) (by decide)) (g := (mkF m 113 #[.val (.int p1), .val (.int p2), .val (.int v1), .val (.int r6), .val (.int r11), .val (.int r13), .val (.int (1 : Int32)), .val (.int (1 : Int32)), .val (.int (1 : Int32)), .val (.int (1 : Int32)), .unset] [(.int r11)])) rfl (by rw [hml]; rfl) (argsL := [(.int r11)]) (rest := []) (lenOf own_pd5 rfl) rfl (by show 2 * 0 + _ ≤ _; exact Nat.le_of_eq rfl) (hb hby at_113) (fun _ _ => ⟨rfl, e15, (by decide : 0 + 2 + 0 + 2 + 0 + 0 + 0 + 0 ≤ _), (by decide : 0 + 68 + 0 + 68 + 0 + 0 + 0 + 0 ≤ _)⟩)
    dsimp only [Pt.U, Pt.locs, Pt.cells, Pt.slots] at X17 l17 y17 z17 st17 hQ17
    subst l17 y17 z17
    obtain ⟨rfl, N17q, e17⟩ := hQ17
    have N17 := Fr.app N15 N17q
    refine own_goW (fun tgt cont => st17 tgt cont) ?_
    show own_GoW p e below s (Q0 n0) room_1.cells room_1.slots (T17.setTop (mkF m 116 #[.val (.int p1), .val (.int p2), .val (.int v1), .val (.int r6), .val (.int r11), .val (.int r13), .val (.int (1 : Int32)), .val (.int (1 : Int32)), .val (.int (1 : Int32)), .val (.int (1 : Int32)), .unset] [(.int (own_hex r11))]))
    generalize hr18 : (own_hex r11) = r18
    refine own_goW (B := T17.setTop (mkF m 139 #[.val (.int p1), .val (.int p2), .val (.int v1), .val (.int r6), .val (.int r11), .val (.int r13), .val (.int (1 : Int32)), .val (.int (1 : Int32)), .val (.int (1 : Int32)), .val (.int (1 : Int32)), .val (.int (1 : Int32))] [(.int (1 : Int32))])) (fun tgt cont => ?_) ?_
    · refine XS.iloadN X17.here hx rfl (hb hby at_116) rfl ?_
      refine XS.icmpNo X17.here hx rfl (hb hby at_117) rfl (XT.ii_ne_f (by rw [← hr18, ← hr11, hj]; exact own_hU j)) ?_
      refine XT.iconstV X17.here hx rfl (1 : Int32) (hb hby at_120) rfl ?_
      refine XS.goto X17.here hx rfl (pc0 := 121) (pc' := 125) rfl (hb hby at_121) (by decide) (by decide) ?_
      refine XS.istore X17.here hx rfl (hb hby at_125) rfl (l' := #[.val (.int p1), .val (.int p2), .val (.int v1), .val (.int r6), .val (.int r11), .val (.int r13), .val (.int (1 : Int32)), .val (.int (1 : Int32)), .val (.int (1 : Int32)), .val (.int (1 : Int32)), .val (.int (1 : Int32))]) rfl ?_
      refine XS.iload X17.here hx rfl (hb hby at_127) rfl ?_
      refine XS.ifNo X17.here hx rfl (hb hby at_129) rfl (XT.i0_eq_f (by first | decide | exact (show ¬ ((1 : Int32) = 0) from by decide))) ?_
      refine XS.iload X17.here hx rfl (hb hby at_132) rfl ?_
      refine XS.ifNo X17.here hx rfl (hb hby at_134) rfl (XT.i0_eq_f (by first | decide | exact (show ¬ ((1 : Int32) = 0) from by decide))) ?_
      refine XS.iload X17.here hx rfl (hb hby at_137) rfl ?_
      exact cont
    refine own_goW (B := T17.setTop (mkF m 152 #[.val (.int p1), .val (.int p2), .val (.int v1), .val (.int r6), .val (.int r11), .val (.int r13), .val (.int (1 : Int32)), .val (.int (1 : Int32)), .val (.int (1 : Int32)), .val (.int (1 : Int32)), .val (.int (1 : Int32))] [(.int (1 : Int32))])) (fun tgt cont => ?_) ?_
    · refine XS.ifNo X17.here hx rfl (hb hby at_139) rfl (XT.i0_eq_f (by first | decide | exact (show ¬ ((1 : Int32) = 0) from by decide))) ?_
      refine XS.iload X17.here hx rfl (hb hby at_142) rfl ?_
      refine XS.ifNo X17.here hx rfl (hb hby at_144) rfl (XT.i0_eq_f (by first | decide | exact (show ¬ ((1 : Int32) = 0) from by decide))) ?_
      refine XT.iconstV X17.here hx rfl (1 : Int32) (hb hby at_147) rfl ?_
      refine XS.goto X17.here hx rfl (pc0 := 148) (pc' := 152) rfl (hb hby at_148) (by decide) (by decide) ?_
      exact cont
    refine own_endW (vm0 := T7.vm) X17 S7 (by rw [e17]; exact q7) (v := some (.int (1 : Int32))) (fun h => by rw [Bd.returns] at h; cases h) hlk ?_ (by decide) (by decide) (fun fs hl => retN X17 hx (t := .boolean) Bd.returns (by simp) (hb hby at_152) hl)
    exact ⟨rfl, N17⟩
  ·
    refine own_goW (B := T12.setTop (mkF m 54 #[.val (.int p1), .val (.int p2), .val (.int v1), .val (.int r6), .val (.int r11), .val (.int r13), .val (.int (1 : Int32)), .unset, .unset, .unset, .unset] [(.int r11), (.int p1)])) (fun tgt cont => ?_) ?_
    · refine XS.icmpNo X12.here hx rfl (hb hby at_48) rfl (XT.ii_eq_f hc14) ?_
      refine XS.iloadN X12.here hx rfl (hb hby at_51) rfl ?_
      refine XS.iload X12.here hx rfl (hb hby at_52) rfl ?_
      exact cont
    by_cases hc19 : p1 = r11
    ·
      refine own_goW (B := T12.setTop (mkF m 76 #[.val (.int p1), .val (.int p2), .val (.int v1), .val (.int r6), .val (.int r11), .val (.int r13), .val (.int (1 : Int32)), .val (.int (1 : Int32)), .unset, .unset, .unset] [(.int (1 : Int32))])) (fun tgt cont => ?_) ?_
      · refine XS.icmpNo X12.here hx rfl (hb hby at_54) rfl (XT.ii_ne_f hc19) ?_
        refine XT.iconstV X12.here hx rfl (1 : Int32) (hb hby at_57) rfl ?_
        refine XS.goto X12.here hx rfl (pc0 := 58) (pc' := 62) rfl (hb hby at_58) (by decide) (by decide) ?_
        refine XS.istore X12.here hx rfl (hb hby at_62) rfl (l' := #[.val (.int p1), .val (.int p2), .val (.int v1), .val (.int r6), .val (.int r11), .val (.int r13), .val (.int (1 : Int32)), .val (.int (1 : Int32)), .unset, .unset, .unset]) rfl ?_
        refine XS.iload X12.here hx rfl (hb hby at_64) rfl ?_
        refine XS.ifNo X12.here hx rfl (hb hby at_66) rfl (XT.i0_eq_f (by first | decide | exact (show ¬ ((1 : Int32) = 0) from by decide))) ?_
        refine XS.iload X12.here hx rfl (hb hby at_69) rfl ?_
        refine XS.iloadN X12.here hx rfl (hb hby at_71) rfl ?_
        refine XS.icmpNo X12.here hx rfl (hb hby at_72) rfl (XT.ii_ne_f (by rw [← hr13, hc19, ← hr11, hj]; exact own_hU j)) ?_
        refine XT.iconstV X12.here hx rfl (1 : Int32) (hb hby at_75) rfl ?_
        exact cont
      refine own_goW (B := T12.setTop (mkF m 97 #[.val (.int p1), .val (.int p2), .val (.int v1), .val (.int r6), .val (.int r11), .val (.int r13), .val (.int (1 : Int32)), .val (.int (1 : Int32)), .val (.int (1 : Int32)), .unset, .unset] [(.int r6)])) (fun tgt cont => ?_) ?_
      · refine XS.goto X12.here hx rfl (pc0 := 76) (pc' := 94) rfl (hb hby at_76) (by decide) (by decide) ?_
        refine XS.istore X12.here hx rfl (hb hby at_94) rfl (l' := #[.val (.int p1), .val (.int p2), .val (.int v1), .val (.int r6), .val (.int r11), .val (.int r13), .val (.int (1 : Int32)), .val (.int (1 : Int32)), .val (.int (1 : Int32)), .unset, .unset]) rfl ?_
        refine XS.iloadN X12.here hx rfl (hb hby at_96) rfl ?_
        exact cont
      -- pc 97: TokenReader.hexDigit
      obtain ⟨_, _, ⟨T20, L20, k20, n20⟩, -, X20, ⟨Lc20, hQ20, l20, y20, z20⟩, st20⟩ := Jvm.LawKit.callS X12 hx (y := (⟨"com/example/pandect/pandect/text/TokenReader", "hexDigit", "(I)I"⟩ : MethodName)) hown (mvT hZ (hw _ (List.mem_of_getElem? (i := 34) rfl))) (mvT hZ (hw _ (List.mem_of_getElem? (i := 35) rfl))) (mvT hZ (hw _ (List.mem_of_getElem? (i := 36) rfl))) (mvT hZ (hw _ (List.mem_of_getElem? (i := 37) rfl))) (by decide) (backOf (W := 0) (rm6 l Z a0 hw [] r6 h7 n0 zp7 ) hZ (hw _ (List.mem_of_getElem? (i := 37) rfl)) (hw _ (List.mem_of_getElem? (i := 36) rfl)) (by decide) (by decide)) (g := (mkF m 97 #[.val (.int p1), .val (.int p2), .val (.int v1), .val (.int r6), .val (.int r11), .val (.int r13), .val (.int (1 : Int32)), .val (.int (1 : Int32)), .val (.int (1 : Int32)), .unset, .unset] [(.int r6)])) rfl (by rw [hml]; rfl) (argsL := [(.int r6)]) (rest := []) (lenOf own_pd5 rfl) rfl (by show 2 * 0 + _ ≤ _; exact Nat.le_of_eq rfl) (hb hby at_97) (fun _ _ => ⟨rfl, e12, (by decide : 0 + 2 + 0 + 2 + 0 + 0 + 0 ≤ _), (by decide : 0 + 68 + 0 + 68 + 0 + 0 + 0 ≤ _)⟩)
      dsimp only [Pt.U, Pt.locs, Pt.cells, Pt.slots] at X20 l20 y20 z20 st20 hQ20
      subst l20 y20 z20
      obtain ⟨rfl, N20q, e20⟩ := hQ20
      have N20 := Fr.app N12 N20q
      refine own_goW (fun tgt cont => st20 tgt cont) ?_
      show own_GoW p e below s (Q0 n0) room_1.cells room_1.slots (T20.setTop (mkF m 100 #[.val (.int p1), .val (.int p2), .val (.int v1), .val (.int r6), .val (.int r11), .val (.int r13), .val (.int (1 : Int32)), .val (.int (1 : Int32)), .val (.int (1 : Int32)), .unset, .unset] [(.int (own_hex r6))]))
      generalize hr21 : (own_hex r6) = r21
      refine own_goW (B := T20.setTop (mkF m 113 #[.val (.int p1), .val (.int p2), .val (.int v1), .val (.int r6), .val (.int r11), .val (.int r13), .val (.int (1 : Int32)), .val (.int (1 : Int32)), .val (.int (1 : Int32)), .val (.int (1 : Int32)), .unset] [(.int r11)])) (fun tgt cont => ?_) ?_
      · refine XS.iloadN X20.here hx rfl (hb hby at_100) rfl ?_
        refine XS.icmpNo X20.here hx rfl (hb hby at_101) rfl (XT.ii_ne_f (by rw [← hr21, ← hr6, hj]; exact own_hL j)) ?_
        refine XT.iconstV X20.here hx rfl (1 : Int32) (hb hby at_104) rfl ?_
        refine XS.goto X20.here hx rfl (pc0 := 105) (pc' := 109) rfl (hb hby at_105) (by decide) (by decide) ?_
        refine XS.istore X20.here hx rfl (hb hby at_109) rfl (l' := #[.val (.int p1), .val (.int p2), .val (.int v1), .val (.int r6), .val (.int r11), .val (.int r13), .val (.int (1 : Int32)), .val (.int (1 : Int32)), .val (.int (1 : Int32)), .val (.int (1 : Int32)), .unset]) rfl ?_
        refine XS.iload X20.here hx rfl (hb hby at_111) rfl ?_
        exact cont
      -- pc 113: TokenReader.hexDigit
      obtain ⟨_, _, ⟨T22, L22, k22, n22⟩, -, X22, ⟨Lc22, hQ22, l22, y22, z22⟩, st22⟩ := Jvm.LawKit.callS X20 hx (y := (⟨"com/example/pandect/pandect/text/TokenReader", "hexDigit", "(I)I"⟩ : MethodName)) hown (mvT hZ (hw _ (List.mem_of_getElem? (i := 34) rfl))) (mvT hZ (hw _ (List.mem_of_getElem? (i := 35) rfl))) (mvT hZ (hw _ (List.mem_of_getElem? (i := 36) rfl))) (mvT hZ (hw _ (List.mem_of_getElem? (i := 37) rfl))) (by decide) (backOf (W := 0) (rm6 l Z a0 hw [] r11 h7 n0 zp7 ) hZ (hw _ (List.mem_of_getElem? (i := 37) rfl)) (hw _ (List.mem_of_getElem? (i := 36) rfl)) (by decide) (by decide)) (g := (mkF m 113 #[.val (.int p1), .val (.int p2), .val (.int v1), .val (.int r6), .val (.int r11), .val (.int r13), .val (.int (1 : Int32)), .val (.int (1 : Int32)), .val (.int (1 : Int32)), .val (.int (1 : Int32)), .unset] [(.int r11)])) rfl (by rw [hml]; rfl) (argsL := [(.int r11)]) (rest := []) (lenOf own_pd5 rfl) rfl (by show 2 * 0 + _ ≤ _; exact Nat.le_of_eq rfl) (hb hby at_113) (fun _ _ => ⟨rfl, e20, (by decide : 0 + 2 + 0 + 2 + 0 + 0 + 0 + 0 ≤ _), (by decide : 0 + 68 + 0 + 68 + 0 + 0 + 0 + 0 ≤ _)⟩)
      dsimp only [Pt.U, Pt.locs, Pt.cells, Pt.slots] at X22 l22 y22 z22 st22 hQ22
      subst l22 y22 z22
      obtain ⟨rfl, N22q, e22⟩ := hQ22
      have N22 := Fr.app N20 N22q
      refine own_goW (fun tgt cont => st22 tgt cont) ?_
      show own_GoW p e below s (Q0 n0) room_1.cells room_1.slots (T22.setTop (mkF m 116 #[.val (.int p1), .val (.int p2), .val (.int v1), .val (.int r6), .val (.int r11), .val (.int r13), .val (.int (1 : Int32)), .val (.int (1 : Int32)), .val (.int (1 : Int32)), .val (.int (1 : Int32)), .unset] [(.int (own_hex r11))]))
      generalize hr23 : (own_hex r11) = r23
      refine own_goW (B := T22.setTop (mkF m 139 #[.val (.int p1), .val (.int p2), .val (.int v1), .val (.int r6), .val (.int r11), .val (.int r13), .val (.int (1 : Int32)), .val (.int (1 : Int32)), .val (.int (1 : Int32)), .val (.int (1 : Int32)), .val (.int (1 : Int32))] [(.int (1 : Int32))])) (fun tgt cont => ?_) ?_
      · refine XS.iloadN X22.here hx rfl (hb hby at_116) rfl ?_
        refine XS.icmpNo X22.here hx rfl (hb hby at_117) rfl (XT.ii_ne_f (by rw [← hr23, ← hr11, hj]; exact own_hU j)) ?_
        refine XT.iconstV X22.here hx rfl (1 : Int32) (hb hby at_120) rfl ?_
        refine XS.goto X22.here hx rfl (pc0 := 121) (pc' := 125) rfl (hb hby at_121) (by decide) (by decide) ?_
        refine XS.istore X22.here hx rfl (hb hby at_125) rfl (l' := #[.val (.int p1), .val (.int p2), .val (.int v1), .val (.int r6), .val (.int r11), .val (.int r13), .val (.int (1 : Int32)), .val (.int (1 : Int32)), .val (.int (1 : Int32)), .val (.int (1 : Int32)), .val (.int (1 : Int32))]) rfl ?_
        refine XS.iload X22.here hx rfl (hb hby at_127) rfl ?_
        refine XS.ifNo X22.here hx rfl (hb hby at_129) rfl (XT.i0_eq_f (by first | decide | exact (show ¬ ((1 : Int32) = 0) from by decide))) ?_
        refine XS.iload X22.here hx rfl (hb hby at_132) rfl ?_
        refine XS.ifNo X22.here hx rfl (hb hby at_134) rfl (XT.i0_eq_f (by first | decide | exact (show ¬ ((1 : Int32) = 0) from by decide))) ?_
        refine XS.iload X22.here hx rfl (hb hby at_137) rfl ?_
        exact cont
      refine own_goW (B := T22.setTop (mkF m 152 #[.val (.int p1), .val (.int p2), .val (.int v1), .val (.int r6), .val (.int r11), .val (.int r13), .val (.int (1 : Int32)), .val (.int (1 : Int32)), .val (.int (1 : Int32)), .val (.int (1 : Int32)), .val (.int (1 : Int32))] [(.int (1 : Int32))])) (fun tgt cont => ?_) ?_
      · refine XS.ifNo X22.here hx rfl (hb hby at_139) rfl (XT.i0_eq_f (by first | decide | exact (show ¬ ((1 : Int32) = 0) from by decide))) ?_
        refine XS.iload X22.here hx rfl (hb hby at_142) rfl ?_
        refine XS.ifNo X22.here hx rfl (hb hby at_144) rfl (XT.i0_eq_f (by first | decide | exact (show ¬ ((1 : Int32) = 0) from by decide))) ?_
        refine XT.iconstV X22.here hx rfl (1 : Int32) (hb hby at_147) rfl ?_
        refine XS.goto X22.here hx rfl (pc0 := 148) (pc' := 152) rfl (hb hby at_148) (by decide) (by decide) ?_
        exact cont
      refine own_endW (vm0 := T7.vm) X22 S7 (by rw [e22]; exact q7) (v := some (.int (1 : Int32))) (fun h => by rw [Bd.returns] at h; cases h) hlk ?_ (by decide) (by decide) (fun fs hl => retN X22 hx (t := .boolean) Bd.returns (by simp) (hb hby at_152) hl)
      exact ⟨rfl, N22⟩
    ·
      refine own_goW (B := T12.setTop (mkF m 94 #[.val (.int p1), .val (.int p2), .val (.int v1), .val (.int r6), .val (.int r11), .val (.int r13), .val (.int (1 : Int32)), .val (.int (0 : Int32)), .unset, .unset, .unset] [(.int (1 : Int32))])) (fun tgt cont => ?_) ?_
      · refine XS.icmpYes X12.here hx rfl (pc0 := 54) (pc' := 61) rfl (hb hby at_54) rfl (XT.ii_ne_t hc19) (by decide) (by decide) ?_
        refine XT.iconstV X12.here hx rfl (0 : Int32) (hb hby at_61) rfl ?_
        refine XS.istore X12.here hx rfl (hb hby at_62) rfl (l' := #[.val (.int p1), .val (.int p2), .val (.int v1), .val (.int r6), .val (.int r11), .val (.int r13), .val (.int (1 : Int32)), .val (.int (0 : Int32)), .unset, .unset, .unset]) rfl ?_
        refine XS.iload X12.here hx rfl (hb hby at_64) rfl ?_
        refine XS.ifYes X12.here hx rfl (pc0 := 66) (pc' := 83) rfl (hb hby at_66) rfl (XT.i0_eq_t (by first | decide | exact (show (0 : Int32) = 0 from by decide))) (by decide) (by decide) ?_
        refine XS.iload X12.here hx rfl (hb hby at_83) rfl ?_
        refine XS.iloadN X12.here hx rfl (hb hby at_85) rfl ?_
        refine XS.icmpNo X12.here hx rfl (hb hby at_86) rfl (XT.ii_eq_f (by rw [← hr13, hj]; rw [← hr6, hj] at hc14; rw [← hr11, hj] at hc19; exact own_hexN p1 j hc14 hc19)) ?_
        refine XT.iconstV X12.here hx rfl (1 : Int32) (hb hby at_89) rfl ?_
        refine XS.goto X12.here hx rfl (pc0 := 90) (pc' := 94) rfl (hb hby at_90) (by decide) (by decide) ?_
        exact cont
      refine own_goW (B := T12.setTop (mkF m 97 #[.val (.int p1), .val (.int p2), .val (.int v1), .val (.int r6), .val (.int r11), .val (.int r13), .val (.int (1 : Int32)), .val (.int (0 : Int32)), .val (.int (1 : Int32)), .unset, .unset] [(.int r6)])) (fun tgt cont => ?_) ?_
      · refine XS.istore X12.here hx rfl (hb hby at_94) rfl (l' := #[.val (.int p1), .val (.int p2), .val (.int v1), .val (.int r6), .val (.int r11), .val (.int r13), .val (.int (1 : Int32)), .val (.int (0 : Int32)), .val (.int (1 : Int32)), .unset, .unset]) rfl ?_
        refine XS.iloadN X12.here hx rfl (hb hby at_96) rfl ?_
        exact cont
      -- pc 97: TokenReader.hexDigit
      obtain ⟨_, _, ⟨T24, L24, k24, n24⟩, -, X24, ⟨Lc24, hQ24, l24, y24, z24⟩, st24⟩ := Jvm.LawKit.callS X12 hx (y := (⟨"com/example/pandect/pandect/text/TokenReader", "hexDigit", "(I)I"⟩ : MethodName)) hown (mvT hZ (hw _ (List.mem_of_getElem? (i := 34) rfl))) (mvT hZ (hw _ (List.mem_of_getElem? (i := 35) rfl))) (mvT hZ (hw _ (List.mem_of_getElem? (i := 36) rfl))) (mvT hZ (hw _ (List.mem_of_getElem? (i := 37) rfl))) (by decide) (backOf (W := 0) (rm6 l Z a0 hw [] r6 h7 n0 zp7 ) hZ (hw _ (List.mem_of_getElem? (i := 37) rfl)) (hw _ (List.mem_of_getElem? (i := 36) rfl)) (by decide) (by decide)) (g := (mkF m 97 #[.val (.int p1), .val (.int p2), .val (.int v1), .val (.int r6), .val (.int r11), .val (.int r13), .val (.int (1 : Int32)), .val (.int (0 : Int32)), .val (.int (1 : Int32)), .unset, .unset] [(.int r6)])) rfl (by rw [hml]; rfl) (argsL := [(.int r6)]) (rest := []) (lenOf own_pd5 rfl) rfl (by show 2 * 0 + _ ≤ _; exact Nat.le_of_eq rfl) (hb hby at_97) (fun _ _ => ⟨rfl, e12, (by decide : 0 + 2 + 0 + 2 + 0 + 0 + 0 ≤ _), (by decide : 0 + 68 + 0 + 68 + 0 + 0 + 0 ≤ _)⟩)
      dsimp only [Pt.U, Pt.locs, Pt.cells, Pt.slots] at X24 l24 y24 z24 st24 hQ24
      subst l24 y24 z24
      obtain ⟨rfl, N24q, e24⟩ := hQ24
      have N24 := Fr.app N12 N24q
      refine own_goW (fun tgt cont => st24 tgt cont) ?_
      show own_GoW p e below s (Q0 n0) room_1.cells room_1.slots (T24.setTop (mkF m 100 #[.val (.int p1), .val (.int p2), .val (.int v1), .val (.int r6), .val (.int r11), .val (.int r13), .val (.int (1 : Int32)), .val (.int (0 : Int32)), .val (.int (1 : Int32)), .unset, .unset] [(.int (own_hex r6))]))
      generalize hr25 : (own_hex r6) = r25
      refine own_goW (B := T24.setTop (mkF m 113 #[.val (.int p1), .val (.int p2), .val (.int v1), .val (.int r6), .val (.int r11), .val (.int r13), .val (.int (1 : Int32)), .val (.int (0 : Int32)), .val (.int (1 : Int32)), .val (.int (1 : Int32)), .unset] [(.int r11)])) (fun tgt cont => ?_) ?_
      · refine XS.iloadN X24.here hx rfl (hb hby at_100) rfl ?_
        refine XS.icmpNo X24.here hx rfl (hb hby at_101) rfl (XT.ii_ne_f (by rw [← hr25, ← hr6, hj]; exact own_hL j)) ?_
        refine XT.iconstV X24.here hx rfl (1 : Int32) (hb hby at_104) rfl ?_
        refine XS.goto X24.here hx rfl (pc0 := 105) (pc' := 109) rfl (hb hby at_105) (by decide) (by decide) ?_
        refine XS.istore X24.here hx rfl (hb hby at_109) rfl (l' := #[.val (.int p1), .val (.int p2), .val (.int v1), .val (.int r6), .val (.int r11), .val (.int r13), .val (.int (1 : Int32)), .val (.int (0 : Int32)), .val (.int (1 : Int32)), .val (.int (1 : Int32)), .unset]) rfl ?_
        refine XS.iload X24.here hx rfl (hb hby at_111) rfl ?_
        exact cont
      -- pc 113: TokenReader.hexDigit
      obtain ⟨_, _, ⟨T26, L26, k26, n26⟩, -, X26, ⟨Lc26, hQ26, l26, y26, z26⟩, st26⟩ := Jvm.LawKit.callS X24 hx (y := (⟨"com/example/pandect/pandect/text/TokenReader", "hexDigit", "(I)I"⟩ : MethodName)) hown (mvT hZ (hw _ (List.mem_of_getElem? (i := 34) rfl))) (mvT hZ (hw _ (List.mem_of_getElem? (i := 35) rfl))) (mvT hZ (hw _ (List.mem_of_getElem? (i := 36) rfl))) (mvT hZ (hw _ (List.mem_of_getElem? (i := 37) rfl))) (by decide) (backOf (W := 0) (rm6 l Z a0 hw [] r11 h7 n0 zp7 ) hZ (hw _ (List.mem_of_getElem? (i := 37) rfl)) (hw _ (List.mem_of_getElem? (i := 36) rfl)) (by decide) (by decide)) (g := (mkF m 113 #[.val (.int p1), .val (.int p2), .val (.int v1), .val (.int r6), .val (.int r11), .val (.int r13), .val (.int (1 : Int32)), .val (.int (0 : Int32)), .val (.int (1 : Int32)), .val (.int (1 : Int32)), .unset] [(.int r11)])) rfl (by rw [hml]; rfl) (argsL := [(.int r11)]) (rest := []) (lenOf own_pd5 rfl) rfl (by show 2 * 0 + _ ≤ _; exact Nat.le_of_eq rfl) (hb hby at_113) (fun _ _ => ⟨rfl, e24, (by decide : 0 + 2 + 0 + 2 + 0 + 0 + 0 + 0 ≤ _), (by decide : 0 + 68 + 0 + 68 + 0 + 0 + 0 + 0 ≤ _)⟩)
      dsimp only [Pt.U, Pt.locs, Pt.cells, Pt.slots] at X26 l26 y26 z26 st26 hQ26
      subst l26 y26 z26
      obtain ⟨rfl, N26q, e26⟩ := hQ26
      have N26 := Fr.app N24 N26q
      refine own_goW (fun tgt cont => st26 tgt cont) ?_
      show own_GoW p e below s (Q0 n0) room_1.cells room_1.slots (T26.setTop (mkF m 116 #[.val (.int p1), .val (.int p2), .val (.int v1), .val (.int r6), .val (.int r11), .val (.int r13), .val (.int (1 : Int32)), .val (.int (0 : Int32)), .val (.int (1 : Int32)), .val (.int (1 : Int32)), .unset] [(.int (own_hex r11))]))
      generalize hr27 : (own_hex r11) = r27
      refine own_goW (B := T26.setTop (mkF m 139 #[.val (.int p1), .val (.int p2), .val (.int v1), .val (.int r6), .val (.int r11), .val (.int r13), .val (.int (1 : Int32)), .val (.int (0 : Int32)), .val (.int (1 : Int32)), .val (.int (1 : Int32)), .val (.int (1 : Int32))] [(.int (1 : Int32))])) (fun tgt cont => ?_) ?_
      · refine XS.iloadN X26.here hx rfl (hb hby at_116) rfl ?_
        refine XS.icmpNo X26.here hx rfl (hb hby at_117) rfl (XT.ii_ne_f (by rw [← hr27, ← hr11, hj]; exact own_hU j)) ?_
        refine XT.iconstV X26.here hx rfl (1 : Int32) (hb hby at_120) rfl ?_
        refine XS.goto X26.here hx rfl (pc0 := 121) (pc' := 125) rfl (hb hby at_121) (by decide) (by decide) ?_
        refine XS.istore X26.here hx rfl (hb hby at_125) rfl (l' := #[.val (.int p1), .val (.int p2), .val (.int v1), .val (.int r6), .val (.int r11), .val (.int r13), .val (.int (1 : Int32)), .val (.int (0 : Int32)), .val (.int (1 : Int32)), .val (.int (1 : Int32)), .val (.int (1 : Int32))]) rfl ?_
        refine XS.iload X26.here hx rfl (hb hby at_127) rfl ?_
        refine XS.ifNo X26.here hx rfl (hb hby at_129) rfl (XT.i0_eq_f (by first | decide | exact (show ¬ ((1 : Int32) = 0) from by decide))) ?_
        refine XS.iload X26.here hx rfl (hb hby at_132) rfl ?_
        refine XS.ifNo X26.here hx rfl (hb hby at_134) rfl (XT.i0_eq_f (by first | decide | exact (show ¬ ((1 : Int32) = 0) from by decide))) ?_
        refine XS.iload X26.here hx rfl (hb hby at_137) rfl ?_
        exact cont
      refine own_goW (B := T26.setTop (mkF m 152 #[.val (.int p1), .val (.int p2), .val (.int v1), .val (.int r6), .val (.int r11), .val (.int r13), .val (.int (1 : Int32)), .val (.int (0 : Int32)), .val (.int (1 : Int32)), .val (.int (1 : Int32)), .val (.int (1 : Int32))] [(.int (1 : Int32))])) (fun tgt cont => ?_) ?_
      · refine XS.ifNo X26.here hx rfl (hb hby at_139) rfl (XT.i0_eq_f (by first | decide | exact (show ¬ ((1 : Int32) = 0) from by decide))) ?_
        refine XS.iload X26.here hx rfl (hb hby at_142) rfl ?_
        refine XS.ifNo X26.here hx rfl (hb hby at_144) rfl (XT.i0_eq_f (by first | decide | exact (show ¬ ((1 : Int32) = 0) from by decide))) ?_
        refine XT.iconstV X26.here hx rfl (1 : Int32) (hb hby at_147) rfl ?_
        refine XS.goto X26.here hx rfl (pc0 := 148) (pc' := 152) rfl (hb hby at_148) (by decide) (by decide) ?_
        exact cont
      refine own_endW (vm0 := T7.vm) X26 S7 (by rw [e26]; exact q7) (v := some (.int (1 : Int32))) (fun h => by rw [Bd.returns] at h; cases h) hlk ?_ (by decide) (by decide) (fun fs hl => retN X26 hx (t := .boolean) Bd.returns (by simp) (hb hby at_152) hl)
      exact ⟨rfl, N26⟩
set_option maxRecDepth 65536 in
set_option maxHeartbeats 40000000 in
theorem comes_1 {Post : Tables → Env → Array Value → State → Outcome → State → Prop} (hpost : ∀ tb e args s v u, (limb_1_1.after args s (.returned v) u = true ∧ limb_1_2.after args s (.returned v) u = true ∧ True) → ReturnedEndW s (.returned v) u (Jvm.fieldLocs frame_1_writes args s ++ Jvm.arrayLocs frame_1_arrays args s ++ Jvm.staticLocs frame_1_statics s) 8 2112 → Post tb e args s (.returned v) u) :
    ArmFor flags0 classFile x code maxLocals ret World_1 tables_1 room_1 Calls_1 rest_1 Pre_1 Post := by
  intro l hfl _ _ p e ha hc hk s m args below hf hA hF happ hP
  obtain ⟨hcalls, hrest, hpre⟩ := hP
  obtain ⟨-, -, -, hnamed, -, -, -, hat⟩ := (Spec.applies_iff hf).mp happ
  obtain ⟨hg, hn⟩ := and_e (Cond.before_iff.mp (show (Jvm.Cond.and given_1 narrow_1).before args s = true from hpre))
  obtain ⟨g0, gr0⟩ := and_e hg
  obtain ⟨ga0, gr1⟩ := and_e gr0
  obtain ⟨w0, w1, rfl⟩ : ∃ w0 w1 : Value, args = #[w0, w1] := by
    have hs : args.size = 2 := by simpa [Cond.value, given_1] using g0
    obtain ⟨L⟩ := args
    match L, hs with
    | [w0, w1], _ => exact ⟨w0, w1, rfl⟩
  have hw := fun d (hd : d ∈ tables_1) => atoms_spec (ws := Jvm.Cond.code x code maxLocals ret :: tables_1) hat d (List.mem_cons_of_mem _ hd)
  obtain ⟨i0, ei0⟩ := is_v ga0
  obtain rfl : w0 = (.int i0) := Option.some.inj ei0
  obtain ⟨i1, ei1⟩ := is_v gr1
  obtain rfl : w1 = (.int i1) := Option.some.inj ei1
  have hr0 : rest_1_c.before #[.int i0, .int i1] s = true := hrest
  have hr := Cond.before_iff.mp hr0
  obtain ⟨r1, hr⟩ := and_e hr
  obtain ⟨r2, hr⟩ := and_e hr
  obtain ⟨r3, hr⟩ := and_e hr
  obtain ⟨r4, hr⟩ := and_e hr
  obtain ⟨r5, hr⟩ := and_e hr
  obtain ⟨r6, hr⟩ := and_e hr
  obtain ⟨r7, hr⟩ := and_e hr
  obtain ⟨r8, hr⟩ := and_e hr
  obtain ⟨r9, hr⟩ := and_e hr
  obtain ⟨z, ez⟩ := is_v r2
  obtain ⟨fm, ef, rf⟩ := isR_v r9
  have hz : ¬ z = 0 := fun q => by
    simp only [Cond.value, ez, q] at r3
    simp [Term.eval] at r3
  obtain ⟨n, o, h1, h2, h3, _, L, rfl, ⟨rfl, N⟩, hq⟩ := rm0 l s _ hw tables_1 i0 i1 z fm s.heap s.heap.size (Nat.le_refl _) (Sta.start ez (Or.inl (Cond.before_iff.mpr r1))) (Sta.start ef (Or.inl (Cond.before_iff.mpr r8))) hz rf (hcalls.1 _ (List.mem_cons_self ..)) (hcalls.1 _ (List.mem_cons_of_mem _ (List.mem_cons_self ..))) (Cond.before_iff.mpr r3) p e ha hc hk s m _ below hf ((Spec.applies_iff_loose hf).mp happ).1 ⟨rfl, State.Warmed39.refl s, rfl, rfl, rfl⟩ trivial
  refine ⟨n, _, h1, h2, h3, hpost _ _ _ _ _ _ ⟨Cond.after_iff.mpr rfl, Cond.after_iff.mpr (eq_i res_at (Term.int_eval (1)) rfl), trivial⟩ ⟨hq.1, hq.2.1, hq.2.2.1, (hq.2.2.2.sift fun y hy => Or.inr (N y hy)).mono (by decide) (by decide)⟩⟩
theorem main_1_1 : Claimed_1_1 := comes_1 fun _ _ _ _ _ _ h hF => ⟨h.1, hF⟩
theorem main_1_2 : Claimed_1_2 := comes_1 fun _ _ _ _ _ _ h hF => ⟨h.2.1, hF⟩
end Jvm.Pilot.@@N@@
namespace Jvm.Pilot.@@N@@
open Jvm Jvm.ClassFile Sem Op Lib Jvm.Free Jvm.Stand Jvm.Pilot.@@N@@.Jvm.D
/-! MADE BY PROGRAM (witnessworld.py) out of the Statement's table words and the real class files: 17 classes; the members and pool entries that the words name. The judged class is class 1, her method 1. -/
namespace start1
open Jvm.ClassFile
def u (s : String) : CpInfo := .utf8 (stringToUtf16 s)
/-- a pool by its gaps: so many unusable entries, then the entry; so many at the end -/
def gap : Nat → List CpInfo → List CpInfo
  | 0, r => r
  | n + 1, r => .unusable :: gap n r
def poolList (es : List (Nat × CpInfo)) (last : Nat) : List CpInfo := es.foldr (fun e r => gap e.1 (e.2 :: r)) (gap last [])
def pool (es : List (Nat × CpInfo)) (last : Nat) : Array CpInfo := ⟨poolList es last⟩
def fileOf (pool : Array CpInfo) (this : Nat) (attrs : Array Attribute := #[]) (ms : Array MethodInfo := #[]) (fl : Nat := 33) (sup : Nat := 0) (ifs : Array Nat := #[]) (fds : Array FieldInfo := #[]) : ClassFile where
  minorVersion := 0
  majorVersion := 65
  constantPool := pool
  accessFlags := fl
  thisClass := this
  superClass := sup
  interfaces := ifs
  fields := fds
  methods := ms
  attributes := attrs
def plain (name : String) (sup : Option ClassId) : Class where
  name := name
  kind := .ordinary
  loader := none
  accessFlags := 33
  super := sup
  interfaces := #[]
  cf := none
  fields := #[]
  methods := #[]
  instanceTypes := #[]
  staticTypes := #[]
  resolved := #[]
  callSites := []
  init := .initialized
  statics := none
  mirror := none

def pool0 : Array CpInfo := pool [(5, u "<init>"), (0, u "()V"), (1, .class_ 10), (1, u "java/lang/Object")] 113

def k0m0 : Method := { name := "<init>", desc := "()V", sig := { parameters := [], returnType := none }, accessFlags := 1, code := none }
/-- java/lang/Object -/
def k0 : Class := { plain "java/lang/Object" none with
  accessFlags := 33
  interfaces := #[]
  cf := some (fileOf pool0 8 #[] #[{ accessFlags := 1, nameIndex := 5, descriptorIndex := 6, attributes := #[] }] 33 0 #[] #[])
  fields := #[]
  methods := #[k0m0]
  instanceTypes := #[]
  staticTypes := #[]
  resolved := Array.replicate 124 none
  statics := none }

def pool1 : Array CpInfo := pool [(2, .class_ 4), (1, u "java/lang/Object"), (0, u "<init>"), (0, u "()V"), (0, .string 8), (0, u "0123456789abcdef"), (0, .methodref 10 11), (0, .class_ 12), (0, .nameAndType 13 14), (0, u "java/lang/String"), (0, u "charAt"), (0, u "(I)C"), (0, .string 16), (0, u "0123456789ABCDEF"), (0, .methodref 18 19), (0, .class_ 20), (0, .nameAndType 21 22), (0, u "com/example/pandect/pandect/text/TokenReader"), (0, u "hexDigit"), (0, u "(I)I"), (0, .class_ 24), (0, u "com/example/pandect/pandect/text/TokenReaderHexDigitPinLaw"), (2, u "law"), (0, u "(II)Z")] 3

def k1m0 : Method := { name := "<init>", desc := "()V", sig := { parameters := [], returnType := none }, accessFlags := 2, code := none }
def k1c1 : Code := { maxStack := 2, maxLocals := 11, code := code, exceptionTable := #[], attributes := #[] }
def k1m1 : Method := { name := "law", desc := "(II)Z", sig := { parameters := [.int, .int], returnType := some .boolean }, accessFlags := 9, code := some k1c1 }
/-- com/example/pandect/pandect/text/TokenReaderHexDigitPinLaw -/
def k1 : Class := { plain "com/example/pandect/pandect/text/TokenReaderHexDigitPinLaw" (some 0) with
  accessFlags := 49
  interfaces := #[]
  cf := some (fileOf pool1 23 #[] #[{ accessFlags := 2, nameIndex := 5, descriptorIndex := 6, attributes := #[] }, { accessFlags := 9, nameIndex := 27, descriptorIndex := 28, attributes := #[] }] 49 2 #[] #[])
  fields := #[]
  methods := #[k1m0, k1m1]
  instanceTypes := #[]
  staticTypes := #[]
  resolved := Array.replicate 32 none
  statics := none }

def pool2 : Array CpInfo := pool [(1, .class_ 2), (0, u "java/io/Serializable"), (0, .class_ 4), (0, u "java/lang/Object")] 2

/-- java/io/Serializable -/
def k2 : Class := { plain "java/io/Serializable" (some 0) with
  accessFlags := 1537
  interfaces := #[]
  cf := some (fileOf pool2 1 #[] #[] 1537 3 #[] #[])
  fields := #[]
  methods := #[]
  instanceTypes := #[]
  staticTypes := #[]
  resolved := Array.replicate 7 none
  statics := none }

def pool3 : Array CpInfo := pool [(1, .class_ 2), (0, u "java/lang/Comparable"), (0, .class_ 4), (0, u "java/lang/Object")] 7

/-- java/lang/Comparable -/
def k3 : Class := { plain "java/lang/Comparable" (some 0) with
  accessFlags := 1537
  interfaces := #[]
  cf := some (fileOf pool3 1 #[] #[] 1537 3 #[] #[])
  fields := #[]
  methods := #[]
  instanceTypes := #[]
  staticTypes := #[]
  resolved := Array.replicate 12 none
  statics := none }

def pool4 : Array CpInfo := pool [(2, .class_ 4), (1, u "java/lang/CharSequence"), (42, .class_ 48), (0, u "java/lang/CharSequence$1CodePointIterator"), (10, .class_ 60), (0, u "java/lang/CharSequence$1CharIterator"), (5, .class_ 67), (0, u "java/lang/Object")] 63

/-- java/lang/CharSequence -/
def k4 : Class := { plain "java/lang/CharSequence" (some 0) with
  accessFlags := 1537
  interfaces := #[]
  cf := some (fileOf pool4 2 #[.nestMembers #[47, 59]] #[] 1537 66 #[] #[])
  fields := #[]
  methods := #[]
  instanceTypes := #[]
  staticTypes := #[]
  resolved := Array.replicate 131 none
  statics := none }

def pool5 : Array CpInfo := pool [(1, .class_ 2), (0, u "java/lang/constant/Constable"), (0, .class_ 4), (0, u "java/lang/Object")] 6

/-- java/lang/constant/Constable -/
def k5 : Class := { plain "java/lang/constant/Constable" (some 0) with
  accessFlags := 1537
  interfaces := #[]
  cf := some (fileOf pool5 1 #[] #[] 1537 3 #[] #[])
  fields := #[]
  methods := #[]
  instanceTypes := #[]
  staticTypes := #[]
  resolved := Array.replicate 11 none
  statics := none }

def pool6 : Array CpInfo := pool [(1, .class_ 2), (0, u "java/lang/constant/ConstantDesc"), (0, .class_ 4), (0, u "java/lang/Object")] 32

/-- java/lang/constant/ConstantDesc -/
def k6 : Class := { plain "java/lang/constant/ConstantDesc" (some 0) with
  accessFlags := 1537
  interfaces := #[]
  cf := some (fileOf pool6 1 #[] #[] 1537 3 #[] #[])
  fields := #[]
  methods := #[]
  instanceTypes := #[]
  staticTypes := #[]
  resolved := Array.replicate 37 none
  statics := none }

def pool7 : Array CpInfo := pool [(2, .class_ 4), (1, u "java/lang/Object"), (0, u "<init>"), (0, u "()V"), (2, .fieldref 10 11), (0, .class_ 12), (0, .nameAndType 13 14), (0, u "java/lang/String"), (0, u "value"), (0, u "[B"), (0, .fieldref 10 16), (0, .nameAndType 17 18), (0, u "coder"), (0, u "B"), (2, u "hash"), (0, u "I"), (2, u "hashIsZero"), (0, u "Z"), (11, .fieldref 10 39), (0, .nameAndType 40 26), (0, u "COMPACT_STRINGS"), (66, .class_ 109), (1, u "java/lang/StringLatin1"), (32, u "()Z"), (220, u "([BI)C"), (27, u "(II)V"), (35, u "(I)C"), (64, .methodref 10 493), (0, .nameAndType 494 142), (0, u "isLatin1"), (0, .methodref 107 496), (0, .nameAndType 497 363), (0, u "charAt"), (3, u "checkIndex"), (73, .class_ 576), (0, u "java/lang/CharSequence"), (22, u "CASE_INSENSITIVE_ORDER"), (0, u "Ljava/util/Comparator;"), (452, .fieldref 1054 1055), (0, .class_ 1056), (0, .nameAndType 1057 1058), (0, u "jdk/internal/util/Preconditions"), (0, u "SIOOBE_FORMATTER"), (0, u "Ljava/util/function/BiFunction;"), (0, .methodref 1054 1060), (0, .nameAndType 501 1061), (0, u "(IILjava/util/function/BiFunction;)I"), (39, u "serialPersistentFields"), (0, u "[Ljava/io/ObjectStreamField;"), (0, .class_ 1104), (0, u "java/lang/String$CaseInsensitiveComparator"), (1, .class_ 1107), (0, u "java/io/Serializable"), (0, .class_ 1109), (0, u "java/lang/Comparable"), (0, .class_ 1111), (0, u "java/lang/constant/Constable"), (0, .class_ 1113), (0, u "java/lang/constant/ConstantDesc"), (2, u "serialVersionUID"), (0, u "J"), (3, u "REPL"), (0, u "C"), (2, u "LATIN1"), (1, u "UTF16")] 323

def k7m0 : Method := { name := "<init>", desc := "()V", sig := { parameters := [], returnType := none }, accessFlags := 1, code := none }
def k7c1 : Code := { maxStack := 2, maxLocals := 2, code := jdk_42_method_56_code, exceptionTable := #[], attributes := #[] }
def k7m1 : Method := { name := "charAt", desc := "(I)C", sig := { parameters := [.int], returnType := some .char }, accessFlags := 1, code := some k7c1 }
def k7c2 : Code := { maxStack := 1, maxLocals := 1, code := jdk_42_method_154_code, exceptionTable := #[], attributes := #[] }
def k7m2 : Method := { name := "isLatin1", desc := "()Z", sig := { parameters := [], returnType := some .boolean }, accessFlags := 0, code := some k7c2 }
def k7c3 : Code := { maxStack := 3, maxLocals := 2, code := jdk_42_method_155_code, exceptionTable := #[], attributes := #[] }
def k7m3 : Method := { name := "checkIndex", desc := "(II)V", sig := { parameters := [.int, .int], returnType := none }, accessFlags := 8, code := some k7c3 }
/-- java/lang/String -/
def k7 : Class := { plain "java/lang/String" (some 0) with
  accessFlags := 49
  interfaces := #[2, 3, 4, 5, 6]
  cf := some (fileOf pool7 10 #[.nestMembers #[1103]] #[{ accessFlags := 1, nameIndex := 5, descriptorIndex := 6, attributes := #[] }, { accessFlags := 1, nameIndex := 497, descriptorIndex := 427, attributes := #[] }, { accessFlags := 0, nameIndex := 494, descriptorIndex := 142, attributes := #[] }, { accessFlags := 8, nameIndex := 501, descriptorIndex := 391, attributes := #[] }] 49 2 #[1106, 1108, 575, 1110, 1112] #[{ accessFlags := 18, nameIndex := 13, descriptorIndex := 14, attributes := #[] }, { accessFlags := 18, nameIndex := 17, descriptorIndex := 18, attributes := #[] }, { accessFlags := 2, nameIndex := 21, descriptorIndex := 22, attributes := #[] }, { accessFlags := 2, nameIndex := 25, descriptorIndex := 26, attributes := #[] }, { accessFlags := 26, nameIndex := 1116, descriptorIndex := 1117, attributes := #[] }, { accessFlags := 24, nameIndex := 40, descriptorIndex := 26, attributes := #[] }, { accessFlags := 26, nameIndex := 1101, descriptorIndex := 1102, attributes := #[] }, { accessFlags := 26, nameIndex := 1121, descriptorIndex := 1122, attributes := #[] }, { accessFlags := 25, nameIndex := 599, descriptorIndex := 600, attributes := #[] }, { accessFlags := 24, nameIndex := 1125, descriptorIndex := 18, attributes := #[] }, { accessFlags := 24, nameIndex := 1127, descriptorIndex := 18, attributes := #[] }])
  fields := #[{ name := "value", type := (.array .byte), accessFlags := 18, slot := 0, constantValue := 0 }, { name := "coder", type := .byte, accessFlags := 18, slot := 1, constantValue := 0 }, { name := "hash", type := .int, accessFlags := 2, slot := 2, constantValue := 0 }, { name := "hashIsZero", type := .boolean, accessFlags := 2, slot := 3, constantValue := 0 }, { name := "serialVersionUID", type := .long, accessFlags := 26, slot := 0, constantValue := 0 }, { name := "COMPACT_STRINGS", type := .boolean, accessFlags := 24, slot := 1, constantValue := 0 }, { name := "serialPersistentFields", type := (.array (.object "java/io/ObjectStreamField")), accessFlags := 26, slot := 2, constantValue := 0 }, { name := "REPL", type := .char, accessFlags := 26, slot := 3, constantValue := 0 }, { name := "CASE_INSENSITIVE_ORDER", type := (.object "java/util/Comparator"), accessFlags := 25, slot := 4, constantValue := 0 }, { name := "LATIN1", type := .byte, accessFlags := 24, slot := 5, constantValue := 0 }, { name := "UTF16", type := .byte, accessFlags := 24, slot := 6, constantValue := 0 }]
  methods := #[k7m0, k7m1, k7m2, k7m3]
  instanceTypes := #[(.array .byte), .byte, .int, .boolean]
  staticTypes := #[.long, .boolean, (.array (.object "java/io/ObjectStreamField")), .char, (.object "java/util/Comparator"), .byte, .byte]
  resolved := Array.replicate 1451 none
  statics := some 0 }

def pool8 : Array CpInfo := pool [(1, .class_ 2), (0, u "java/lang/String"), (1, .class_ 6), (1, u "java/lang/Object"), (0, u "<init>"), (0, u "()V"), (0, .methodref 1 10), (0, .nameAndType 11 12), (0, u "checkIndex"), (0, u "(II)V"), (1, .class_ 16), (1, u "java/lang/StringLatin1"), (36, u "([BI)C"), (67, u "$assertionsDisabled"), (0, u "Z"), (98, .class_ 223), (1, u "java/lang/StringLatin1$LinesSpliterator"), (28, u "charAt"), (137, .class_ 391), (0, u "java/lang/StringLatin1$CharsSpliterator")] 3

def k8m0 : Method := { name := "<init>", desc := "()V", sig := { parameters := [], returnType := none }, accessFlags := 0, code := none }
def k8c1 : Code := { maxStack := 2, maxLocals := 2, code := jdk_43_method_2_code, exceptionTable := #[], attributes := #[] }
def k8m1 : Method := { name := "charAt", desc := "([BI)C", sig := { parameters := [(.array .byte), .int], returnType := some .char }, accessFlags := 9, code := some k8c1 }
/-- java/lang/StringLatin1 -/
def k8 : Class := { plain "java/lang/StringLatin1" (some 0) with
  accessFlags := 48
  interfaces := #[]
  cf := some (fileOf pool8 14 #[.nestMembers #[390, 221]] #[{ accessFlags := 0, nameIndex := 7, descriptorIndex := 8, attributes := #[] }, { accessFlags := 9, nameIndex := 252, descriptorIndex := 53, attributes := #[] }] 48 4 #[] #[{ accessFlags := 4120, nameIndex := 121, descriptorIndex := 122, attributes := #[] }])
  fields := #[{ name := "$assertionsDisabled", type := .boolean, accessFlags := 4120, slot := 0, constantValue := 0 }]
  methods := #[k8m0, k8m1]
  instanceTypes := #[]
  staticTypes := #[.boolean]
  resolved := Array.replicate 395 none
  statics := none }

def pool9 : Array CpInfo := pool [(2, .class_ 4), (1, u "java/lang/Object"), (0, u "<init>"), (0, u "()V"), (17, .class_ 26), (1, u "jdk/internal/util/Preconditions"), (6, u "checkIndex"), (21, .class_ 56), (0, u "jdk/internal/util/Preconditions$4"), (57, .class_ 115), (0, u "jdk/internal/util/Preconditions$1"), (7, u "SIOOBE_FORMATTER"), (0, u "Ljava/util/function/BiFunction;"), (0, .class_ 126), (0, u "jdk/internal/util/Preconditions$2"), (3, u "AIOOBE_FORMATTER"), (0, .class_ 132), (0, u "jdk/internal/util/Preconditions$3"), (3, u "IOOBE_FORMATTER"), (41, u "(IILjava/util/function/BiFunction;)I")] 15

def k9m0 : Method := { name := "<init>", desc := "()V", sig := { parameters := [], returnType := none }, accessFlags := 1, code := none }
def k9c1 : Code := { maxStack := 3, maxLocals := 3, code := jdk_41_method_11_code, exceptionTable := #[], attributes := #[] }
def k9m1 : Method := { name := "checkIndex", desc := "(IILjava/util/function/BiFunction;)I", sig := { parameters := [.int, .int, (.object "java/util/function/BiFunction")], returnType := some .int }, accessFlags := 9, code := some k9c1 }
/-- jdk/internal/util/Preconditions -/
def k9 : Class := { plain "jdk/internal/util/Preconditions" (some 0) with
  accessFlags := 33
  interfaces := #[]
  cf := some (fileOf pool9 24 #[.nestMembers #[55, 131, 125, 114]] #[{ accessFlags := 1, nameIndex := 5, descriptorIndex := 6, attributes := #[] }, { accessFlags := 9, nameIndex := 33, descriptorIndex := 178, attributes := #[] }] 33 2 #[] #[{ accessFlags := 25, nameIndex := 123, descriptorIndex := 124, attributes := #[] }, { accessFlags := 25, nameIndex := 130, descriptorIndex := 124, attributes := #[] }, { accessFlags := 25, nameIndex := 136, descriptorIndex := 124, attributes := #[] }])
  fields := #[{ name := "SIOOBE_FORMATTER", type := (.object "java/util/function/BiFunction"), accessFlags := 25, slot := 0, constantValue := 0 }, { name := "AIOOBE_FORMATTER", type := (.object "java/util/function/BiFunction"), accessFlags := 25, slot := 1, constantValue := 0 }, { name := "IOOBE_FORMATTER", type := (.object "java/util/function/BiFunction"), accessFlags := 25, slot := 2, constantValue := 0 }]
  methods := #[k9m0, k9m1]
  instanceTypes := #[]
  staticTypes := #[(.object "java/util/function/BiFunction"), (.object "java/util/function/BiFunction"), (.object "java/util/function/BiFunction")]
  resolved := Array.replicate 194 none
  statics := some 1 }

def pool10 : Array CpInfo := pool [(2, .class_ 4), (1, u "java/lang/Object"), (3, .class_ 10), (1, u "com/example/pandect/pandect/text/TokenReader"), (1, u "Lcom/example/pandect/pandect/text/TextSource;"), (3, u "Ljava/lang/String;"), (3, u "Z"), (33, u "Lcom/example/pandect/pandect/text/AsciiSet;"), (125, u "(I)I"), (28, u "hexDigit"), (33, u "I")] 74

def k10c0 : Code := { maxStack := 2, maxLocals := 2, code := prog_142_method_18_code, exceptionTable := #[], attributes := #[] }
def k10m0 : Method := { name := "hexDigit", desc := "(I)I", sig := { parameters := [.int], returnType := some .int }, accessFlags := 9, code := some k10c0 }
/-- com/example/pandect/pandect/text/TokenReader -/
def k10 : Class := { plain "com/example/pandect/pandect/text/TokenReader" (some 0) with
  accessFlags := 49
  interfaces := #[]
  cf := some (fileOf pool10 8 #[] #[{ accessFlags := 9, nameIndex := 209, descriptorIndex := 180, attributes := #[] }] 49 2 #[] #[])
  fields := #[]
  methods := #[k10m0]
  instanceTypes := #[]
  staticTypes := #[]
  resolved := Array.replicate 318 none
  statics := none }

def pool11 : Array CpInfo := pool [(9, u "<init>"), (6, .class_ 18), (1, u "java/lang/Object"), (0, u "()V"), (1, .class_ 23), (1, u "jdk/internal/util/ArraysSupport"), (0, u "LOG2_ARRAY_LONG_INDEX_SCALE"), (0, u "I"), (2, u "U"), (0, u "Ljdk/internal/misc/Unsafe;"), (8, u "BIG_ENDIAN"), (0, u "Z"), (8, u "LOG2_BYTE_BIT_SIZE"), (4, u "LOG2_ARRAY_INT_INDEX_SCALE"), (54, u "JLA"), (0, u "Ljdk/internal/access/JavaLangAccess;"), (11, u "LOG2_ARRAY_BOOLEAN_INDEX_SCALE"), (9, u "LOG2_ARRAY_BYTE_INDEX_SCALE"), (5, u "LOG2_ARRAY_CHAR_INDEX_SCALE"), (5, u "LOG2_ARRAY_SHORT_INDEX_SCALE"), (18, u "LOG2_ARRAY_FLOAT_INDEX_SCALE"), (24, u "LOG2_ARRAY_DOUBLE_INDEX_SCALE"), (89, u "T_BOOLEAN"), (2, u "T_CHAR"), (1, u "T_FLOAT"), (1, u "T_DOUBLE"), (1, u "T_BYTE"), (1, u "T_SHORT"), (1, u "T_INT"), (1, u "T_LONG"), (1, u "SOFT_MAX_ARRAY_LENGTH")] 83

def k11m0 : Method := { name := "<init>", desc := "()V", sig := { parameters := [], returnType := none }, accessFlags := 2, code := none }
/-- jdk/internal/util/ArraysSupport -/
def k11 : Class := { plain "jdk/internal/util/ArraysSupport" (some 0) with
  accessFlags := 33
  interfaces := #[]
  cf := some (fileOf pool11 21 #[] #[{ accessFlags := 2, nameIndex := 9, descriptorIndex := 19, attributes := #[] }] 33 16 #[] #[{ accessFlags := 24, nameIndex := 28, descriptorIndex := 29, attributes := #[] }, { accessFlags := 26, nameIndex := 38, descriptorIndex := 39, attributes := #[] }, { accessFlags := 25, nameIndex := 121, descriptorIndex := 25, attributes := #[] }, { accessFlags := 25, nameIndex := 131, descriptorIndex := 25, attributes := #[] }, { accessFlags := 25, nameIndex := 137, descriptorIndex := 25, attributes := #[] }, { accessFlags := 25, nameIndex := 143, descriptorIndex := 25, attributes := #[] }, { accessFlags := 25, nameIndex := 53, descriptorIndex := 25, attributes := #[] }, { accessFlags := 25, nameIndex := 24, descriptorIndex := 25, attributes := #[] }, { accessFlags := 25, nameIndex := 162, descriptorIndex := 25, attributes := #[] }, { accessFlags := 25, nameIndex := 187, descriptorIndex := 25, attributes := #[] }, { accessFlags := 26, nameIndex := 48, descriptorIndex := 25, attributes := #[] }, { accessFlags := 25, nameIndex := 277, descriptorIndex := 25, attributes := #[] }, { accessFlags := 25, nameIndex := 280, descriptorIndex := 25, attributes := #[] }, { accessFlags := 25, nameIndex := 282, descriptorIndex := 25, attributes := #[] }, { accessFlags := 25, nameIndex := 284, descriptorIndex := 25, attributes := #[] }, { accessFlags := 25, nameIndex := 286, descriptorIndex := 25, attributes := #[] }, { accessFlags := 25, nameIndex := 288, descriptorIndex := 25, attributes := #[] }, { accessFlags := 25, nameIndex := 290, descriptorIndex := 25, attributes := #[] }, { accessFlags := 25, nameIndex := 292, descriptorIndex := 25, attributes := #[] }, { accessFlags := 26, nameIndex := 108, descriptorIndex := 109, attributes := #[] }, { accessFlags := 25, nameIndex := 294, descriptorIndex := 25, attributes := #[] }])
  fields := #[{ name := "U", type := (.object "jdk/internal/misc/Unsafe"), accessFlags := 24, slot := 0, constantValue := 0 }, { name := "BIG_ENDIAN", type := .boolean, accessFlags := 26, slot := 1, constantValue := 0 }, { name := "LOG2_ARRAY_BOOLEAN_INDEX_SCALE", type := .int, accessFlags := 25, slot := 2, constantValue := 0 }, { name := "LOG2_ARRAY_BYTE_INDEX_SCALE", type := .int, accessFlags := 25, slot := 3, constantValue := 0 }, { name := "LOG2_ARRAY_CHAR_INDEX_SCALE", type := .int, accessFlags := 25, slot := 4, constantValue := 0 }, { name := "LOG2_ARRAY_SHORT_INDEX_SCALE", type := .int, accessFlags := 25, slot := 5, constantValue := 0 }, { name := "LOG2_ARRAY_INT_INDEX_SCALE", type := .int, accessFlags := 25, slot := 6, constantValue := 0 }, { name := "LOG2_ARRAY_LONG_INDEX_SCALE", type := .int, accessFlags := 25, slot := 7, constantValue := 0 }, { name := "LOG2_ARRAY_FLOAT_INDEX_SCALE", type := .int, accessFlags := 25, slot := 8, constantValue := 0 }, { name := "LOG2_ARRAY_DOUBLE_INDEX_SCALE", type := .int, accessFlags := 25, slot := 9, constantValue := 0 }, { name := "LOG2_BYTE_BIT_SIZE", type := .int, accessFlags := 26, slot := 10, constantValue := 0 }, { name := "T_BOOLEAN", type := .int, accessFlags := 25, slot := 11, constantValue := 0 }, { name := "T_CHAR", type := .int, accessFlags := 25, slot := 12, constantValue := 0 }, { name := "T_FLOAT", type := .int, accessFlags := 25, slot := 13, constantValue := 0 }, { name := "T_DOUBLE", type := .int, accessFlags := 25, slot := 14, constantValue := 0 }, { name := "T_BYTE", type := .int, accessFlags := 25, slot := 15, constantValue := 0 }, { name := "T_SHORT", type := .int, accessFlags := 25, slot := 16, constantValue := 0 }, { name := "T_INT", type := .int, accessFlags := 25, slot := 17, constantValue := 0 }, { name := "T_LONG", type := .int, accessFlags := 25, slot := 18, constantValue := 0 }, { name := "JLA", type := (.object "jdk/internal/access/JavaLangAccess"), accessFlags := 26, slot := 19, constantValue := 0 }, { name := "SOFT_MAX_ARRAY_LENGTH", type := .int, accessFlags := 25, slot := 20, constantValue := 0 }]
  methods := #[k11m0]
  instanceTypes := #[]
  staticTypes := #[(.object "jdk/internal/misc/Unsafe"), .boolean, .int, .int, .int, .int, .int, .int, .int, .int, .int, .int, .int, .int, .int, .int, .int, .int, .int, (.object "jdk/internal/access/JavaLangAccess"), .int]
  resolved := Array.replicate 378 none
  statics := none }

def pool12 : Array CpInfo := pool [(1, u "java/lang/Cloneable"), (0, .class_ 1), (0, u "java/lang/Object"), (0, .class_ 3)] 3

/-- java/lang/Cloneable -/
def k12 : Class := { plain "java/lang/Cloneable" (some 0) with
  accessFlags := 1537
  interfaces := #[]
  cf := some (fileOf pool12 2 #[] #[] 1537 4 #[] #[])
  fields := #[]
  methods := #[]
  instanceTypes := #[]
  staticTypes := #[]
  resolved := Array.replicate 8 none
  statics := none }

/-- the primitive byte -/
def k13 : Class := { plain "byte" none with kind := .primitive 'B', accessFlags := 0x411 }
/-- [B -/
def k14 : Class := { plain "[B" (some 0) with kind := .array 13 .byte, interfaces := #[12, 2], accessFlags := 1041 }

/-- the primitive int -/
def k15 : Class := { plain "int" none with kind := .primitive 'I', accessFlags := 0x411 }
/-- [I -/
def k16 : Class := { plain "[I" (some 0) with kind := .array 15 .int, interfaces := #[12, 2], accessFlags := 1041 }

def heap : Heap := #[{ cls := 7, slots := #[.long 0, .int 1, .null, .int 0, .null, .int 0, .int 0], vm := .statics 7 },
  { cls := 9, slots := #[.null, .null, .null], vm := .statics 9 }]
def classes : Array Class := #[k0, k1, k2, k3, k4, k5, k6, k7, k8, k9, k10, k11, k12, k13, k14, k15, k16]
def interned : List (Array UInt16 × Addr) := []
def slotsUsed : Nat := 10
def theMethod : MethodId := ⟨1, 1⟩
def args0 : Array Value := #[.int 5, .int 6]
def aboutOver (below : List Frame) : State where
  vm := { classes := classes, interned := interned.toArray }
  heap := heap
  slotsUsed := slotsUsed
  threads := #[{ frames := .invoking theMethod args0 :: below }]
def below0 : List Frame := [.native { method := ⟨0, 0⟩, args := #[] }]
def about1 : State := aboutOver below0
def p0 : Program := .bare "" "" ""
def e0 : Env := launch0.env 0 0 0
theorem w_frames : about1.frames = Frame.invoking theMethod args0 :: below0 := rfl
set_option maxRecDepth 65536 in
theorem w_args : argsFit about1.vm theMethod args0 = true := by decide +kernel
set_option maxRecDepth 65536 in
theorem w_heap : heapFits about1 = true := by decide +kernel
set_option maxRecDepth 65536 in
theorem w_runnable : about1.curStatus? = some .runnable := by decide +kernel
set_option maxRecDepth 65536 in
theorem w_alone : about1.alone = true := by decide +kernel
set_option maxRecDepth 65536 in
theorem w_named : about1.methodNamed? x = some theMethod := by decide +kernel
set_option maxRecDepth 65536 in
theorem w_hears : about1.hears theMethod below0 = true := by decide +kernel
set_option maxRecDepth 65536 in
theorem w_ripe : about1.ripe theMethod args0 below0 = true := by decide +kernel
theorem w_running : about1.status = .running := rfl
set_option maxRecDepth 65536 in
theorem w_room : about1.hasRoom e0.platform room_1 = true :=
  launch0.hasRoom_least _ room_1 (by decide +kernel) (by decide +kernel) (by decide +kernel) (by decide +kernel) (by decide +kernel) (by decide +kernel)
theorem allAtoms_all (ts : List Jvm.Cond) (a : Array Jvm.Value) (st : Jvm.State) : (allAtoms ts).before a st = ts.all (fun c => c.before a st) := by
  induction ts with
  | nil => rfl
  | cons c t ih =>
    show (Jvm.Cond.and c (allAtoms t)).before a st = _
    rw [Jvm.Cond.before_and, ih, List.all_cons]
def words1 : List Jvm.Cond := Jvm.Cond.code x code maxLocals ret :: tables_1
/-- a 'code' word, met by the world's own term for the bytes: nothing is compared byte by byte -/
theorem code_word {y : MethodName} {bytes : ByteArray} {mx : Nat} {rt : Option FieldType} {a : Array Value} {s : State} {m : MethodId} {meth : Method} {c : Code} (h1 : s.methodNamed? y = some m) (h2 : s.vm.method? m = some meth) (h3 : meth.code = some c) (h4 : c.code = bytes)
    (h5 : (c.maxLocals == mx && c.exceptionTable.isEmpty && decide (c.maxStack ≤ mostOperands) && decide (meth.sig.returnType = rt) && !meth.locks && decide (parseMethodDescriptor y.desc = some meth.sig)) = true) : (Jvm.Cond.code y bytes mx rt).before a s = true := by
  simp only [Bool.and_eq_true, beq_iff_eq, Bool.not_eq_true', decide_eq_true_eq] at h5
  obtain ⟨⟨⟨⟨⟨g1, g2⟩, g3⟩, g4⟩, g5⟩, g6⟩ := h5
  simp [Cond.before, Cond.holds, Cond.value, h1, h2, h3, h4, g1, g2, g3, g4, g5, g6]
def isCode : Jvm.Cond → Bool
  | .code _ _ _ _ => true
  | _ => false
theorem all_split {L : List Jvm.Cond} {P : Jvm.Cond → Bool} (h1 : L.all (fun c => isCode c || P c) = true) (h2 : ∀ c ∈ L.filter isCode, P c = true) : L.all P = true := by
  refine List.all_eq_true.mpr fun c hc => ?_
  have h := List.all_eq_true.mp h1 c hc
  rcases Bool.eq_false_or_eq_true (isCode c) with hi | hi
  · exact h2 c (List.mem_filter.mpr ⟨hc, hi⟩)
  · simpa [hi] using h
set_option maxRecDepth 65536 in
theorem w_c0 : (Jvm.Cond.code x code maxLocals ret).before args0 about1 = true := code_word (m := ⟨1, 1⟩) (meth := k1m1) (c := k1c1) (by decide +kernel) rfl rfl rfl (by decide +kernel)
set_option maxRecDepth 65536 in
theorem w_c1 : (Jvm.Cond.code ({ cls := "java/lang/String", name := "charAt", desc := "(I)C" } : Jvm.MethodName) jdk_42_method_56_code (2 : Nat) (Option.some Jvm.ClassFile.FieldType.char)).before args0 about1 = true := code_word (m := ⟨7, 1⟩) (meth := k7m1) (c := k7c1) (by decide +kernel) rfl rfl rfl (by decide +kernel)
set_option maxRecDepth 65536 in
theorem w_c2 : (Jvm.Cond.code ({ cls := "java/lang/String", name := "isLatin1", desc := "()Z" } : Jvm.MethodName) jdk_42_method_154_code (1 : Nat) (Option.some Jvm.ClassFile.FieldType.boolean)).before args0 about1 = true := code_word (m := ⟨7, 2⟩) (meth := k7m2) (c := k7c2) (by decide +kernel) rfl rfl rfl (by decide +kernel)
set_option maxRecDepth 65536 in
theorem w_c3 : (Jvm.Cond.code ({ cls := "java/lang/StringLatin1", name := "charAt", desc := "([BI)C" } : Jvm.MethodName) jdk_43_method_2_code (2 : Nat) (Option.some Jvm.ClassFile.FieldType.char)).before args0 about1 = true := code_word (m := ⟨8, 1⟩) (meth := k8m1) (c := k8c1) (by decide +kernel) rfl rfl rfl (by decide +kernel)
set_option maxRecDepth 65536 in
theorem w_c4 : (Jvm.Cond.code ({ cls := "java/lang/String", name := "checkIndex", desc := "(II)V" } : Jvm.MethodName) jdk_42_method_155_code (2 : Nat) (Option.none : Option Jvm.ClassFile.FieldType)).before args0 about1 = true := code_word (m := ⟨7, 3⟩) (meth := k7m3) (c := k7c3) (by decide +kernel) rfl rfl rfl (by decide +kernel)
set_option maxRecDepth 65536 in
theorem w_c5 : (Jvm.Cond.code ({ cls := "jdk/internal/util/Preconditions", name := "checkIndex", desc := "(IILjava/util/function/BiFunction;)I" } : Jvm.MethodName) jdk_41_method_11_code (3 : Nat) (Option.some Jvm.ClassFile.FieldType.int)).before args0 about1 = true := code_word (m := ⟨9, 1⟩) (meth := k9m1) (c := k9c1) (by decide +kernel) rfl rfl rfl (by decide +kernel)
set_option maxRecDepth 65536 in
theorem w_c6 : (Jvm.Cond.code ({ cls := "com/example/pandect/pandect/text/TokenReader", name := "hexDigit", desc := "(I)I" } : Jvm.MethodName) prog_142_method_18_code (2 : Nat) (Option.some Jvm.ClassFile.FieldType.int)).before args0 about1 = true := code_word (m := ⟨10, 0⟩) (meth := k10m0) (c := k10c0) (by decide +kernel) rfl rfl rfl (by decide +kernel)
def codes1 : List Jvm.Cond := [Jvm.Cond.code x code maxLocals ret, Jvm.Cond.code ({ cls := "java/lang/String", name := "charAt", desc := "(I)C" } : Jvm.MethodName) jdk_42_method_56_code (2 : Nat) (Option.some Jvm.ClassFile.FieldType.char), Jvm.Cond.code ({ cls := "java/lang/String", name := "isLatin1", desc := "()Z" } : Jvm.MethodName) jdk_42_method_154_code (1 : Nat) (Option.some Jvm.ClassFile.FieldType.boolean), Jvm.Cond.code ({ cls := "java/lang/StringLatin1", name := "charAt", desc := "([BI)C" } : Jvm.MethodName) jdk_43_method_2_code (2 : Nat) (Option.some Jvm.ClassFile.FieldType.char), Jvm.Cond.code ({ cls := "java/lang/String", name := "checkIndex", desc := "(II)V" } : Jvm.MethodName) jdk_42_method_155_code (2 : Nat) (Option.none : Option Jvm.ClassFile.FieldType), Jvm.Cond.code ({ cls := "jdk/internal/util/Preconditions", name := "checkIndex", desc := "(IILjava/util/function/BiFunction;)I" } : Jvm.MethodName) jdk_41_method_11_code (3 : Nat) (Option.some Jvm.ClassFile.FieldType.int), Jvm.Cond.code ({ cls := "com/example/pandect/pandect/text/TokenReader", name := "hexDigit", desc := "(I)I" } : Jvm.MethodName) prog_142_method_18_code (2 : Nat) (Option.some Jvm.ClassFile.FieldType.int)]
set_option maxRecDepth 65536 in
theorem codes_eq : words1.filter isCode = codes1 := rfl
theorem w_codes : ∀ c ∈ words1.filter isCode, c.before args0 about1 = true := by
  rw [codes_eq]
  intro c hc
  simp only [codes1, List.mem_cons, List.not_mem_nil, or_false] at hc
  rcases hc with rfl | rfl | rfl | rfl | rfl | rfl | rfl
  · exact w_c0
  · exact w_c1
  · exact w_c2
  · exact w_c3
  · exact w_c4
  · exact w_c5
  · exact w_c6
set_option maxRecDepth 65536 in
theorem w_t1 : (words1.take 24).all (fun c => isCode c || c.before args0 about1) = true := by decide +kernel
set_option maxRecDepth 65536 in
theorem w_t2 : (words1.drop 24).all (fun c => isCode c || c.before args0 about1) = true := by decide +kernel
theorem w_tables : (allAtoms (Jvm.Cond.code x code maxLocals ret :: tables_1)).before args0 about1 = true := by
  rw [allAtoms_all]
  show words1.all (fun c => c.before args0 about1) = true
  refine all_split ?_ w_codes
  rw [← List.take_append_drop 24 words1, List.all_append, w_t1, w_t2]
  rfl
set_option maxRecDepth 65536 in
theorem w_rest : rest_1_c.before args0 about1 = true := by decide +kernel
set_option maxRecDepth 65536 in
theorem w_case : (Jvm.Cond.and given_1 narrow_1).before args0 about1 = true := by decide +kernel
set_option maxRecDepth 65536 in
theorem w_consts : constsHeld consts_1 about1 := Jvm.Lit.constsHeldB_iff.mp (by decide +kernel)
theorem w_applies : (headSpec (Jvm.Cond.code x code maxLocals ret :: tables_1) room_1).applies x e0.platform about1 = true :=
  (Spec.applies_iff w_frames).mpr ⟨w_running, w_runnable, w_alone, w_named, w_hears, w_ripe, w_room, w_tables⟩
theorem atStart : AtStart classFile x code maxLocals ret World_1 tables_1 room_1 Calls_1 rest_1 Pre_1 launch0 p0 e0 about1 theMethod args0 below0 :=
  ⟨lists_1, trivial, launch0.admits_env _ _ _, launch0.least_env, fairChoices_fair.cas, fairChoices_fair.clock, w_frames, w_args, w_heap, w_applies, ⟨w_consts, trivial⟩, w_rest, w_case⟩
end start1
theorem witness_1 : WitnessClaimed_1 := ⟨start1.p0, start1.e0, start1.about1, start1.theMethod, start1.args0, start1.below0, start1.atStart⟩
end Jvm.Pilot.@@N@@
