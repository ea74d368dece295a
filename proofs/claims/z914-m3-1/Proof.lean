import JvmDerived
import JvmDerived.Pilot.@@N@@Statement
import JvmDerived.Pilot.@@N@@Code
set_option linter.unusedVariables false
set_option linter.unusedSimpArgs false
namespace Jvm.RoadKit
open Sem ClassFile Op Lib Jvm.Stand Jvm.Free Jvm.LawKit
section New
variable {p : Program} {l : Launch} {e : Env} {R : Room} {s : State} {m : MethodId} {args : Array Value} {below : List Frame} {meth : Method} {c : Code} {T : State} {locs : List Loc} {cells slots : Nat}
theorem retI (X : Stand p l e R s m args below meth c T locs cells slots) (hx : p.tables.exec = Jvm.exec) {pc : Nat} {Ls : Array Slot} {z : Int32} {rest : List Value} (hret : meth.sig.returnType = some .int) (hd : decode c.code pc = .ok (.ireturn, 1)) {fs : List Frame}
    (hl : ∀ (f : JFrame) (acts : List Action), f.method = m → f.locked = none → f.entered = [] → (doReturn e (T.setTop f) acts (some (.int z))).1 = T.setFrames fs) : Steps p.tables e below (T.setTop (mkF m pc Ls (.int z :: rest))) (T.setFrames fs) := by
  have hm' : T.vm.method? m = some meth := X.method'
  have hn : narrow .int (.int z) = .int z := rfl
  show Steps p.tables e below (T.setTop { method := m, pc := pc, locals := Ls, stack := _ :: rest, locked := none }) _
  jvm_step X.here [X.here.top, hx, hd, hm', hret, hn]
  first | (intro acts; rw [hl _ acts rfl rfl rfl]) | rw [hl _ _ rfl rfl rfl]
  exact Steps.refl _
end New
end Jvm.RoadKit
namespace Jvm.Pilot.@@N@@
open Jvm Jvm.ClassFile Sem Op Lib Jvm.Free Jvm.Stand Jvm.LawKit Jvm.RoadKit Bundle Jvm.Pilot.@@N@@.Jvm.D
/-! my own layer: all goals of a walk have one shape -/
section Own
variable {p : Program} {l : Launch} {e : Env} {R : Room} {s : State} {m : MethodId} {args : Array Value} {below : List Frame} {meth : Method} {c : Code} {T : State} {locs : List Loc} {cells slots : Nat} {Q : Option Value → Heap → List Loc → Prop} {nc ns : Nat} {A B : State}
/-- from A the method comes to its end, with Q of what it returns, of the heap and of the places written -/
def own_Go (p : Program) (e : Env) (below : List Frame) (s : State) (Q : Option Value → Heap → List Loc → Prop) (nc ns : Nat) (A : State) : Prop :=
  ∃ s₂ o, Steps p.tables e below A s₂ ∧ s₂.status = .running ∧ Ended s₂ below o ∧ ∃ v L, o = .returned v ∧ Q v s₂.heap L ∧ FrameEnd s o s₂ L nc ns
theorem own_go (k : ∀ t, Steps p.tables e below B t → Steps p.tables e below A t) (h : own_Go p e below s Q nc ns B) : own_Go p e below s Q nc ns A := by
  obtain ⟨t, o, h1, h2⟩ := h
  exact ⟨t, o, k t h1, h2⟩
theorem own_end (X : Stand p l e R s m args below meth c T locs cells slots) {v : Option Value} (hv : meth.sig.returnType = none → v = none) (hlk : meth.locks = false) (hq : Q v T.heap locs) (hc : cells ≤ nc) (hs : slots ≤ ns)
    (hst : ∀ fs, (∀ (f : JFrame) (acts : List Action), f.method = m → f.locked = none → f.entered = [] → (doReturn e (T.setTop f) acts v).1 = T.setFrames fs) → Steps p.tables e below A (T.setFrames fs)) : own_Go p e below s Q nc ns A := by
  obtain ⟨fs, hr, hrun, hended, hW, hsame⟩ := X.leave (v := v) hv hlk
  exact ⟨_, _, hst fs hr, hrun, hended, v, locs, rfl, hq, ⟨_, rfl⟩, hW, hsame.mono hc hs⟩
theorem own_wide {cells' slots' : Nat} (X : Stand p l e R s m args below meth c T locs cells slots) (hc : cells ≤ cells') (hs : slots ≤ slots') : Stand p l e R s m args below meth c T locs cells' slots' :=
  { X with same := X.same.mono hc hs }
theorem own_lrem {tb : Tables} [Ours tb] {target : State} {g : JFrame} (h : At T m c below) (hx : tb.exec = Jvm.exec) (hg : g.method = m) {x y : Int64} {rest : List Value} (hd : decode c.code g.pc = .ok (.lrem, 1)) (hs : g.stack = .long y :: .long x :: rest) (hy : y ≠ 0)
    (hr : Steps tb e below (T.setTop { g with pc := g.pc + 1, stack := .long (x % y) :: rest }) target) : Steps tb e below (T.setTop g) target :=
  XS.lrem h hx hg hd hs hy (by rw [lrem_mod]; exact hr)
end Own
section Own2
variable {Z s : State} {a0 args : Array Value} {h : Heap} {a b : Addr} {C : String} {c : Cell} {ty : FieldType}
theorem own_selP {y : MethodName} {n : Nat} (hZ : Z.Warmed39 s.vm) (wi : (Jvm.Cond.instantiable y.cls n).before a0 Z = true) (w2 : (Jvm.Cond.instanceMethod y).before a0 Z = true) (w3 : (Jvm.Cond.privateMethod y).before a0 Z = true)
    (hy : y.cls ≠ "java/lang/invoke/MethodHandle" ∧ y.cls ≠ "java/lang/invoke/VarHandle" := by decide) : (Jvm.Cond.selects y.cls y y).before args s = true := by
  have wi' : (Jvm.Cond.instantiable y.cls n).before args s = true := mvT hZ wi
  obtain ⟨c, k, h1, h2, -, h4, -⟩ := Cond.instantiable_spec wi'
  have h5 : k.isInterface = false := by
    cases hk : k.isInterface
    · rfl
    · rw [hk] at h4; simp at h4
  exact selects_self_of_private h1 h2 h5 (Cond.privateMethod_at (mvP hZ w3 (args := #[]))) (mvT hZ w2) hy
theorem own_neA {n : Nat} (F : Exa Z h a C) (wi : (Jvm.Cond.instantiable C n).before a0 Z = true) (G : ∃ c, Arr Z h b c ty) : a ≠ b := by
  obtain ⟨c, G⟩ := G
  exact ne_arr F wi G
end Own2
/-! small naturals as ints -/
theorem own_toI {n : Nat} (h : n < 2147483648) : (Int32.ofNat n).toInt = n := Int32.toInt_ofNat_of_lt h
theorem own_toN {n : Nat} (h : n < 2147483648) : (Int32.ofNat n).toNatClampNeg = n := by
  rw [Int32.toNatClampNeg, own_toI h]; omega
theorem own_one {i : Nat} : Int32.ofNat i + (1 : Int32) = Int32.ofNat (i + 1) := (Int32.ofNat_add i 1).symm
theorem own_inb {j : Int32} {n : Nat} (h0 : ¬ j < 0) (h : j < Int32.ofNat n) (hn : n < 2147483648) : ¬ j < 0 ∧ j.toNatClampNeg < n := by
  refine ⟨h0, ?_⟩
  rw [Int32.lt_iff_toInt_lt, own_toI hn] at h
  rw [Int32.lt_iff_toInt_lt] at h0
  have e0 : (0 : Int32).toInt = 0 := rfl
  rw [Int32.toNatClampNeg]; omega
theorem own_inN {i n : Nat} (h : i < n) (hn : n < 2147483648) : ¬ Int32.ofNat i < 0 ∧ (Int32.ofNat i).toNatClampNeg < n := by
  rw [own_toN (by omega), Int32.lt_iff_toInt_lt, own_toI (by omega)]
  have e0 : (0 : Int32).toInt = 0 := rfl
  omega
theorem own_ofNat_lt {i n : Nat} (h : Int32.ofNat i < Int32.ofNat n) (hn : n < 2147483648) (hi : i ≤ n) : i < n := by
  rw [Int32.lt_iff_toInt_lt, own_toI hn, own_toI (by omega)] at h; omega
theorem own_ofNat_nlt {i n : Nat} (h : ¬ Int32.ofNat i < Int32.ofNat n) (hn : n < 2147483648) (hi : i ≤ n) : n ≤ i := by
  rw [Int32.lt_iff_toInt_lt, own_toI hn, own_toI (by omega)] at h; omega
theorem own_drop (vs : List Int32) {i : Nat} (h : i < vs.length) : vs.drop i = vs.getD i 0 :: vs.drop (i + 1) := by
  rw [List.drop_eq_getElem_cons h, List.getD_eq_getElem?_getD, List.getElem?_eq_getElem h]; rfl
theorem own_ofNat_inj {i n : Nat} (h : Int32.ofNat i = Int32.ofNat n) (hn : n < 2147483648) (hi : i ≤ n) : i = n := by
  have q := congrArg Int32.toInt h
  rw [own_toI hn, own_toI (by omega)] at q; omega

/-! arrays as lists -/
section OwnIA
variable {p : Program} {l : Launch} {e : Env} {R : Room} {s : State} {m : MethodId} {args : Array Value} {below : List Frame} {meth : Method} {c : Code} {T : State} {locs : List Loc} {cells slots : Nat} {Z : State} {a0 : Array Value} {h h' : Heap} {a b : Addr} {ws : List Addr} {sl : Nat} {v : Value} {vs : List Int32}
def own_IA (Z : State) (h : Heap) (a : Addr) (vs : List Int32) : Prop := ∃ c : Cell, Arr Z h a c .int ∧ c.slots.toList = vs.map Value.int ∧ vs.length < 2147483648
theorem own_IA.lt (F : own_IA Z h a vs) : a < h.size := by obtain ⟨c, A, -⟩ := F; exact A.lt
theorem own_IA.arr (F : own_IA Z h a vs) : ∃ c, Arr Z h a c .int := by obtain ⟨c, A, -⟩ := F; exact ⟨c, A⟩
theorem own_IA.ext (F : own_IA Z h a vs) (E : Ext h h') : own_IA Z h' a vs := by obtain ⟨c, A, r⟩ := F; exact ⟨c, A.ext E, r⟩
theorem own_IA.other (F : own_IA Z h b vs) (W : Wr h h' a sl v) (q : b ≠ a) : own_IA Z h' b vs := by obtain ⟨c, A, r⟩ := F; exact ⟨c, A.other W q, r⟩
theorem own_IA.keep (F : own_IA Z h a vs) (K : Keep h h' ws) (q : a ∉ ws) : own_IA Z h' a vs := by obtain ⟨c, A, r⟩ := F; exact ⟨c, ⟨K.2.1 a c A.1 q, A.2⟩, r⟩
theorem own_IA.cong {vs' : List Int32} (F : own_IA Z h a vs) (q : vs = vs') : own_IA Z h a vs' := q ▸ F
theorem own_IA.small (F : own_IA Z h a vs) : vs.length < 2147483648 := by obtain ⟨c, A, q, r⟩ := F; exact r
theorem own_IA.new {k : ClassId} {n : Int32} (A : Arr Z h a (newA k .int n) .int) (q : ¬ n < 0) : own_IA Z h a (List.replicate n.toNatClampNeg 0) := by
  refine ⟨_, A, ?_, ?_⟩
  · simp [newA, defaultValue]
  · rw [List.length_replicate]; exact (back32 q).2
theorem own_IA_in {c : Cell} {j : Int32} (S : c.slots.toList = vs.map Value.int) (hj : ¬ j < 0 ∧ j.toNatClampNeg < vs.length) : ¬ (j < 0 ∨ c.slots.size ≤ j.toNatClampNeg) := by
  have e := congrArg List.length S
  rw [List.length_map, Array.length_toList] at e
  rintro (q | q)
  · exact hj.1 q
  · have := hj.2; omega
/-- the load -/
theorem own_ldIA (X : Stand p l e R s m args below meth c T locs cells slots) (hx : p.tables.exec = Jvm.exec) (hZ : Z.Warmed39 s.vm) (eT : T.heap = h) (A : own_IA Z h a vs) {j : Int32} (hj : ¬ j < 0 ∧ j.toNatClampNeg < vs.length)
    {g : JFrame} (hg : g.method = m) {rest : List Value} (hs : g.stack = .int j :: .ref a :: rest) (hd : decode c.code g.pc = .ok (.iaload, 1)) {target : State}
    (hr : Steps p.tables e below (T.setTop { g with pc := g.pc + 1, stack := Value.int (vs.getD j.toNatClampNeg 0) :: rest }) target) : Steps p.tables e below (T.setTop g) target := by
  obtain ⟨cl, Ar, S, -⟩ := A
  refine X.iaload hx (j := j) (v := Value.int (vs.getD j.toNatClampNeg 0)) (by rw [eT]; exact Ar.1) (State.isArrayOf_alike hZ.alike Ar.2.1) Ar.2.2 (own_IA_in S hj) ?_ (g := g) hg hs hd _ hr
  rw [← Array.getElem?_toList, S, List.getElem?_map, List.getD_eq_getElem?_getD, List.getElem?_eq_getElem hj.2]
  rfl
/-- the length -/
theorem own_lenIA (X : Stand p l e R s m args below meth c T locs cells slots) (hx : p.tables.exec = Jvm.exec) (hZ : Z.Warmed39 s.vm) (eT : T.heap = h) (A : own_IA Z h a vs)
    {g : JFrame} (hg : g.method = m) {rest : List Value} (hs : g.stack = .ref a :: rest) (hd : decode c.code g.pc = .ok (.arraylength, 1)) {target : State}
    (hr : Steps p.tables e below (T.setTop { g with pc := g.pc + 1, stack := .int (Int32.ofNat vs.length) :: rest }) target) : Steps p.tables e below (T.setTop g) target := by
  obtain ⟨cl, Ar, S, -⟩ := A
  refine X.arraylength hx (by rw [eT]; exact Ar.1) (State.isArrayOf_alike hZ.alike Ar.2.1) (g := g) hg hs hd _ ?_
  have e := congrArg List.length S
  rw [List.length_map, Array.length_toList] at e
  rw [e]; exact hr
/-- the store -/
theorem own_stIA (X : Stand p l e R s m args below meth c T locs cells slots) (hx : p.tables.exec = Jvm.exec) (hZ : Z.Warmed39 s.vm) (eT : T.heap = h) (A : own_IA Z h a vs) {j : Int32} {x : Int32} (hj : ¬ j < 0 ∧ j.toNatClampNeg < vs.length)
    {g : JFrame} (hg : g.method = m) {rest : List Value} (hs : g.stack = Value.int x :: .int j :: .ref a :: rest) (hd : decode c.code g.pc = .ok (.iastore, 1)) :
    ∃ T' h', Stand p l e R s m args below meth c T' (locs ++ [⟨a, j.toNatClampNeg⟩]) cells slots ∧ T'.heap = h' ∧ Wr h h' a j.toNatClampNeg (Value.int x) ∧ own_IA Z h' a (vs.set j.toNatClampNeg x) ∧
      ∀ target, Steps p.tables e below (T'.setTop { g with pc := g.pc + 1, stack := rest }) target → Steps p.tables e below (T.setTop g) target := by
  obtain ⟨cl, Ar, S, B⟩ := A
  obtain ⟨T', h', X', e', W', st'⟩ := stI X hx hZ eT Ar (own_IA_in S hj) (g := g) hg hs hd
  refine ⟨T', h', X', e', W', ⟨_, Ar.same W', ?_, ?_⟩, st'⟩
  · simp [Cell.setSlot, S]
  · rw [List.length_set]; exact B
theorem own_ldIAn (X : Stand p l e R s m args below meth c T locs cells slots) (hx : p.tables.exec = Jvm.exec) (hZ : Z.Warmed39 s.vm) (eT : T.heap = h) (A : own_IA Z h a vs) {i : Nat} (hi : i < vs.length)
    {g : JFrame} (hg : g.method = m) {rest : List Value} (hs : g.stack = .int (Int32.ofNat i) :: .ref a :: rest) (hd : decode c.code g.pc = .ok (.iaload, 1)) {target : State}
    (hr : Steps p.tables e below (T.setTop { g with pc := g.pc + 1, stack := Value.int (vs.getD i 0) :: rest }) target) : Steps p.tables e below (T.setTop g) target := by
  have q := A.small
  refine own_ldIA X hx hZ eT A (own_inN hi q) hg hs hd ?_
  rw [own_toN (Nat.lt_trans hi q)]; exact hr
theorem own_stIAn (X : Stand p l e R s m args below meth c T locs cells slots) (hx : p.tables.exec = Jvm.exec) (hZ : Z.Warmed39 s.vm) (eT : T.heap = h) (A : own_IA Z h a vs) {i : Nat} {x : Int32} (hi : i < vs.length)
    {g : JFrame} (hg : g.method = m) {rest : List Value} (hs : g.stack = Value.int x :: .int (Int32.ofNat i) :: .ref a :: rest) (hd : decode c.code g.pc = .ok (.iastore, 1)) :
    ∃ T' h', Stand p l e R s m args below meth c T' (locs ++ [⟨a, i⟩]) cells slots ∧ T'.heap = h' ∧ Wr h h' a i (Value.int x) ∧ own_IA Z h' a (vs.set i x) ∧
      ∀ target, Steps p.tables e below (T'.setTop { g with pc := g.pc + 1, stack := rest }) target → Steps p.tables e below (T.setTop g) target := by
  have q := A.small
  have r := own_stIA X hx hZ eT A (x := x) (own_inN hi q) hg hs hd
  rw [own_toN (Nat.lt_trans hi q)] at r
  exact r
/-- a new one -/
theorem own_newIA (X : Stand p l e R s m args below meth c T locs cells slots) (hx : p.tables.exec = Jvm.exec) (hZ : Z.Warmed39 s.vm) (w : (Jvm.Cond.arrayClass .int).before a0 Z = true) (eT : T.heap = h) {g : JFrame} (hg : g.method = m) (hd : decode c.code g.pc = .ok (.newarray .int, 2)) {n : Int32} {rest : List Value} (hs : g.stack = .int n :: rest)
    (hn : ¬ n < 0) {cap : Nat} (hcap : n.toNatClampNeg ≤ cap) (hb : cap * 8 ≤ 536870912) (hc : cells + 1 ≤ R.cells) (hl : slots + cap ≤ R.slots) :
    ∃ T' h', Stand p l e R s m args below meth c T' locs (cells + 1) (slots + cap) ∧ T'.heap = h' ∧ Ext h h' ∧ own_IA Z h' h.size (List.replicate n.toNatClampNeg 0) ∧ Exa Z h' h.size "[I" ∧
      ∀ target, Steps p.tables e below (T'.setTop { g with pc := g.pc + 2, stack := .ref h.size :: rest }) target → Steps p.tables e below (T.setTop g) target := by
  obtain ⟨T', h', k, X', e', E', A', F', st'⟩ := newPE X hx hZ (aty := .int) w eT hg hd hs hn hcap hb hc hl (ad := "[I") (by decide)
  exact ⟨T', h', X', e', E', own_IA.new A' hn, F', st'⟩
end OwnIA

def own_min (p1 : Int32) (p2 : Int32) : Int32 := if p2 < p1 then p2 else p1
def Q_rm1 (Z : State) (p1 : Int32) (p2 : Int32) (h0 : Heap) (n0 : Nat) (v : Option Value) (h : Heap) (L : List Loc) : Prop := v = some (.int (own_min p1 p2)) ∧ Fr n0 L ∧ h = h0
theorem d1_0 : decode jdk_29_method_69_code 0 = .ok (.iload_n 0, 1) := by decide +kernel
theorem d1_1 : decode jdk_29_method_69_code 1 = .ok (.iload_n 1, 1) := by decide +kernel
theorem d1_2 : decode jdk_29_method_69_code 2 = .ok (.if_icmp .gt 7, 3) := by decide +kernel
theorem d1_5 : decode jdk_29_method_69_code 5 = .ok (.iload_n 0, 1) := by decide +kernel
theorem d1_6 : decode jdk_29_method_69_code 6 = .ok (.goto 4, 3) := by decide +kernel
theorem d1_9 : decode jdk_29_method_69_code 9 = .ok (.iload_n 1, 1) := by decide +kernel
theorem d1_10 : decode jdk_29_method_69_code 10 = .ok (.ireturn, 1) := by decide +kernel
set_option maxRecDepth 65536 in
set_option maxHeartbeats 40000000 in
theorem rm1 (l : Launch) (Z : State) (a0 : Array Value) (hw : ∀ d ∈ tables_1, d.before a0 Z = true) (ws : List Jvm.Cond) (p1 : Int32) (p2 : Int32) (h0 : Heap) (n0 : Nat) (Z0 : n0 ≤ h0.size)  :
    MetFree l (⟨"java/lang/Math", "min", "(II)I"⟩ : MethodName) (head1 (Jvm.Cond.code (⟨"java/lang/Math", "min", "(II)I"⟩ : MethodName) jdk_29_method_69_code 2 (some .int) :: ws) ({ frames := 0, cells := 0, slots := 0, locals := 0 } : Room)) (fun aa U => aa = #[(.int p1), (.int p2)] ∧ Z.Warmed39 U.vm ∧ U.heap = h0) (fun _ _ _ _ _ => True) (fun _ U o U' => ∃ v L, o = .returned v ∧ Q_rm1 Z p1 p2 h0 n0 v U'.heap L ∧ FrameEnd U o U' L ({ frames := 0, cells := 0, slots := 0, locals := 0 } : Room).cells ({ frames := 0, cells := 0, slots := 0, locals := 0 } : Room).slots) := by
  refine MetFree.of_bodySF (Jvm.Free.JP.mathPlain rfl (by decide +kernel)) hisR ?_
  intro p e s m args below meth c s₁ Bd hml0 hP hK
  obtain ⟨rfl, hZ, hh⟩ := hP
  have hx := Bd.exec
  have hby := Bd.bytes
  have hml : c.maxLocals = 2 := hml0
  have hlk : meth.locks = false := BodyLoose.notSynchronized Bd
  have hown : s.vm.findClass "java/lang/Math" = some m.cls := findClass_of_methodNamed Bd.named
  have hnm := (name_of_methodNamed Bd.named Bd.method).1
  have X0 : Stand p l e ({ frames := 0, cells := 0, slots := 0, locals := 0 } : Room) s m #[(.int p1), (.int p2)] below meth c s₁ [] 0 0 := Stand.of_body Bd
  have e0 : s₁.heap = h0 := by rw [← hh, Bd.state]; rfl
  have N0 := Fr.nil n0
  show own_Go p e below s (Q_rm1 Z p1 p2 h0 n0) 0 0 (s₁.setTop (entryFrame m #[(.int p1), (.int p2)] 2))
  refine own_go (B := s₁.setTop (mkF m 0 #[.val (.int p1), .val (.int p2)] [])) (fun tgt cont => (XT.entry rfl).trans cont) ?_
  refine own_go (B := s₁.setTop (mkF m 2 #[.val (.int p1), .val (.int p2)] [(.int p2), (.int p1)])) (fun tgt cont => ?_) ?_
  · refine XS.iloadN X0.here hx rfl (hb hby d1_0) rfl ?_
    refine XS.iloadN X0.here hx rfl (hb hby d1_1) rfl ?_
    exact cont
  by_cases hc1 : p2 < p1
  ·
    refine own_go (B := s₁.setTop (mkF m 10 #[.val (.int p1), .val (.int p2)] [(.int p2)])) (fun tgt cont => ?_) ?_
    · refine XS.icmpYes X0.here hx rfl (pc0 := 2) (pc' := 9) rfl (hb hby d1_2) rfl (XT.ii_gt_t hc1) (by decide) (by decide) ?_
      refine XS.iloadN X0.here hx rfl (hb hby d1_9) rfl ?_
      exact cont
    refine own_end X0 (v := some (.int p2)) (fun h => by rw [Bd.returns] at h; cases h) hlk ?_ (by decide) (by decide) (fun fs hl => retI X0 hx Bd.returns (hb hby d1_10) hl)
    exact ⟨(by unfold own_min; first | exact rfl | (simp only [if_pos hc1]; first | done | exact rfl)), N0, e0⟩
  ·
    refine own_go (B := s₁.setTop (mkF m 10 #[.val (.int p1), .val (.int p2)] [(.int p1)])) (fun tgt cont => ?_) ?_
    · refine XS.icmpNo X0.here hx rfl (hb hby d1_2) rfl (XT.ii_gt_f hc1) ?_
      refine XS.iloadN X0.here hx rfl (hb hby d1_5) rfl ?_
      refine XS.goto X0.here hx rfl (pc0 := 6) (pc' := 10) rfl (hb hby d1_6) (by decide) (by decide) ?_
      exact cont
    refine own_end X0 (v := some (.int p1)) (fun h => by rw [Bd.returns] at h; cases h) hlk ?_ (by decide) (by decide) (fun fs hl => retI X0 hx Bd.returns (hb hby d1_10) hl)
    exact ⟨(by unfold own_min; first | exact rfl | (simp only [if_neg hc1]; first | done | exact rfl)), N0, e0⟩
def own_bld0_l  : List Int32 := []
def Q_rm2_0 (Z : State) (p1 : Int32) (p2 : Int32) (h0 : Heap) (n0 : Nat) (v : Option Value) (h : Heap) (L : List Loc) : Prop := ∃ b : Addr, v = some (.ref b) ∧ Fr n0 L ∧ Keep h0 h [] ∧ h0.size ≤ b ∧ own_IA Z h b own_bld0_l ∧ Exa Z h b "[I"
theorem own_pn0 : plainName "com/example/treebound/treebound/SortedSetsDisjointPinLaw" = true := by first | (simp [plainName, overriddenIn]; done) | decide +kernel
theorem d2_0 : decode method_2_code 0 = .ok (.iload_n 0, 1) := by decide +kernel
theorem d2_1 : decode method_2_code 1 = .ok (.iload_n 1, 1) := by decide +kernel
theorem d2_2 : decode method_2_code 2 = .ok (.bipush 7, 2) := by decide +kernel
theorem d2_4 : decode method_2_code 4 = .ok (.iand, 1) := by decide +kernel
theorem d2_5 : decode method_2_code 5 = .ok (.iadd, 1) := by decide +kernel
theorem d2_6 : decode method_2_code 6 = .ok (.istore_n 3, 1) := by decide +kernel
theorem d2_7 : decode method_2_code 7 = .ok (.iload_n 3, 1) := by decide +kernel
theorem d2_8 : decode method_2_code 8 = .ok (.iconst 1, 1) := by decide +kernel
theorem d2_9 : decode method_2_code 9 = .ok (.iadd, 1) := by decide +kernel
theorem d2_10 : decode method_2_code 10 = .ok (.iload_n 1, 1) := by decide +kernel
theorem d2_11 : decode method_2_code 11 = .ok (.iconst 3, 1) := by decide +kernel
theorem d2_12 : decode method_2_code 12 = .ok (.iushr, 1) := by decide +kernel
theorem d2_13 : decode method_2_code 13 = .ok (.bipush 7, 2) := by decide +kernel
theorem d2_15 : decode method_2_code 15 = .ok (.iand, 1) := by decide +kernel
theorem d2_16 : decode method_2_code 16 = .ok (.iadd, 1) := by decide +kernel
theorem d2_17 : decode method_2_code 17 = .ok (.istore 4, 2) := by decide +kernel
theorem d2_19 : decode method_2_code 19 = .ok (.iload 4, 2) := by decide +kernel
theorem d2_21 : decode method_2_code 21 = .ok (.iconst 1, 1) := by decide +kernel
theorem d2_22 : decode method_2_code 22 = .ok (.iadd, 1) := by decide +kernel
theorem d2_23 : decode method_2_code 23 = .ok (.iload_n 1, 1) := by decide +kernel
theorem d2_24 : decode method_2_code 24 = .ok (.bipush 6, 2) := by decide +kernel
theorem d2_26 : decode method_2_code 26 = .ok (.iushr, 1) := by decide +kernel
theorem d2_27 : decode method_2_code 27 = .ok (.bipush 7, 2) := by decide +kernel
theorem d2_29 : decode method_2_code 29 = .ok (.iand, 1) := by decide +kernel
theorem d2_30 : decode method_2_code 30 = .ok (.iadd, 1) := by decide +kernel
theorem d2_31 : decode method_2_code 31 = .ok (.istore 5, 2) := by decide +kernel
theorem d2_33 : decode method_2_code 33 = .ok (.iload_n 2, 1) := by decide +kernel
theorem d2_34 : decode method_2_code 34 = .ok (.newarray .int, 2) := by decide +kernel
theorem d2_36 : decode method_2_code 36 = .ok (.astore 6, 2) := by decide +kernel
theorem d2_38 : decode method_2_code 38 = .ok (.iload_n 2, 1) := by decide +kernel
theorem d2_39 : decode method_2_code 39 = .ok (.ifCond .le 8, 3) := by decide +kernel
theorem d2_47 : decode method_2_code 47 = .ok (.iload_n 2, 1) := by decide +kernel
theorem d2_48 : decode method_2_code 48 = .ok (.iconst 1, 1) := by decide +kernel
theorem d2_49 : decode method_2_code 49 = .ok (.if_icmp .le 9, 3) := by decide +kernel
theorem d2_58 : decode method_2_code 58 = .ok (.iload_n 2, 1) := by decide +kernel
theorem d2_59 : decode method_2_code 59 = .ok (.iconst 2, 1) := by decide +kernel
theorem d2_60 : decode method_2_code 60 = .ok (.if_icmp .le 9, 3) := by decide +kernel
theorem d2_69 : decode method_2_code 69 = .ok (.aload 6, 2) := by decide +kernel
theorem d2_71 : decode method_2_code 71 = .ok (.areturn, 1) := by decide +kernel
set_option maxRecDepth 65536 in
set_option maxHeartbeats 40000000 in
theorem rm2_0 (l : Launch) (Z : State) (a0 : Array Value) (hw : ∀ d ∈ tables_1, d.before a0 Z = true) (ws : List Jvm.Cond) (p1 : Int32) (p2 : Int32) (h0 : Heap) (n0 : Nat) (Z0 : n0 ≤ h0.size)  :
    MetFree l (⟨"com/example/treebound/treebound/SortedSetsDisjointPinLaw", "build", "(III)[I"⟩ : MethodName) (head1 (Jvm.Cond.code (⟨"com/example/treebound/treebound/SortedSetsDisjointPinLaw", "build", "(III)[I"⟩ : MethodName) method_2_code 7 (some (.array .int)) :: ws) ({ frames := 0, cells := 1, slots := 3, locals := 0 } : Room)) (fun aa U => aa = #[(.int p1), (.int p2), (.int (0 : Int32))] ∧ Z.Warmed39 U.vm ∧ U.heap = h0) (fun _ _ _ _ _ => True) (fun _ U o U' => ∃ v L, o = .returned v ∧ Q_rm2_0 Z p1 p2 h0 n0 v U'.heap L ∧ FrameEnd U o U' L ({ frames := 0, cells := 1, slots := 3, locals := 0 } : Room).cells ({ frames := 0, cells := 1, slots := 3, locals := 0 } : Room).slots) := by
  refine MetFree.of_bodySF (plainFor_of_name own_pn0) hisR ?_
  intro p e s m args below meth c s₁ Bd hml0 hP hK
  obtain ⟨rfl, hZ, hh⟩ := hP
  have hx := Bd.exec
  have hby := Bd.bytes
  have hml : c.maxLocals = 7 := hml0
  have hlk : meth.locks = false := BodyLoose.notSynchronized Bd
  have hown : s.vm.findClass "com/example/treebound/treebound/SortedSetsDisjointPinLaw" = some m.cls := findClass_of_methodNamed Bd.named
  have hnm := (name_of_methodNamed Bd.named Bd.method).1
  have X0 : Stand p l e ({ frames := 0, cells := 1, slots := 3, locals := 0 } : Room) s m #[(.int p1), (.int p2), (.int (0 : Int32))] below meth c s₁ [] 0 0 := Stand.of_body Bd
  have e0 : s₁.heap = h0 := by rw [← hh, Bd.state]; rfl
  have N0 := Fr.nil n0
  show own_Go p e below s (Q_rm2_0 Z p1 p2 h0 n0) 1 3 (s₁.setTop (entryFrame m #[(.int p1), (.int p2), (.int (0 : Int32))] 7))
  refine own_go (B := s₁.setTop (mkF m 0 #[.val (.int p1), .val (.int p2), .val (.int (0 : Int32)), .unset, .unset, .unset, .unset] [])) (fun tgt cont => (XT.entry rfl).trans cont) ?_
  refine own_go (B := s₁.setTop (mkF m 11 #[.val (.int p1), .val (.int p2), .val (.int (0 : Int32)), .val (.int (p1 + (p2 &&& (7 : Int32)))), .unset, .unset, .unset] [(.int p2), (.int ((p1 + (p2 &&& (7 : Int32))) + (1 : Int32)))])) (fun tgt cont => ?_) ?_
  · refine XS.iloadN X0.here hx rfl (hb hby d2_0) rfl ?_
    refine XS.iloadN X0.here hx rfl (hb hby d2_1) rfl ?_
    refine XT.bipushV X0.here hx rfl (7 : Int32) (hb hby d2_2) rfl ?_
    refine XS.iand X0.here hx rfl (hb hby d2_4) rfl ?_
    refine XS.iadd X0.here hx rfl (hb hby d2_5) rfl ?_
    refine XS.istoreN X0.here hx rfl (hb hby d2_6) rfl (l' := #[.val (.int p1), .val (.int p2), .val (.int (0 : Int32)), .val (.int (p1 + (p2 &&& (7 : Int32)))), .unset, .unset, .unset]) rfl ?_
    refine XS.iloadN X0.here hx rfl (hb hby d2_7) rfl ?_
    refine XT.iconstV X0.here hx rfl (1 : Int32) (hb hby d2_8) rfl ?_
    refine XS.iadd X0.here hx rfl (hb hby d2_9) rfl ?_
    refine XS.iloadN X0.here hx rfl (hb hby d2_10) rfl ?_
    exact cont
  refine own_go (B := s₁.setTop (mkF m 24 #[.val (.int p1), .val (.int p2), .val (.int (0 : Int32)), .val (.int (p1 + (p2 &&& (7 : Int32)))), .val (.int (((p1 + (p2 &&& (7 : Int32))) + (1 : Int32)) + (((p2.toUInt32 >>> ((3 : Int32) &&& 31).toUInt32).toInt32) &&& (7 : Int32)))), .unset, .unset] [(.int p2), (.int ((((p1 + (p2 &&& (7 : Int32))) + (1 : Int32)) + (((p2.toUInt32 >>> ((3 : Int32) &&& 31).toUInt32).toInt32) &&& (7 : Int32))) + (1 : Int32)))])) (fun tgt cont => ?_) ?_
  · refine XT.iconstV X0.here hx rfl (3 : Int32) (hb hby d2_11) rfl ?_
    refine XS.iushr X0.here hx rfl (hb hby d2_12) rfl ?_
    refine XT.bipushV X0.here hx rfl (7 : Int32) (hb hby d2_13) rfl ?_
    refine XS.iand X0.here hx rfl (hb hby d2_15) rfl ?_
    refine XS.iadd X0.here hx rfl (hb hby d2_16) rfl ?_
    refine XS.istore X0.here hx rfl (hb hby d2_17) rfl (l' := #[.val (.int p1), .val (.int p2), .val (.int (0 : Int32)), .val (.int (p1 + (p2 &&& (7 : Int32)))), .val (.int (((p1 + (p2 &&& (7 : Int32))) + (1 : Int32)) + (((p2.toUInt32 >>> ((3 : Int32) &&& 31).toUInt32).toInt32) &&& (7 : Int32)))), .unset, .unset]) rfl ?_
    refine XS.iload X0.here hx rfl (hb hby d2_19) rfl ?_
    refine XT.iconstV X0.here hx rfl (1 : Int32) (hb hby d2_21) rfl ?_
    refine XS.iadd X0.here hx rfl (hb hby d2_22) rfl ?_
    refine XS.iloadN X0.here hx rfl (hb hby d2_23) rfl ?_
    exact cont
  refine own_go (B := s₁.setTop (mkF m 34 #[.val (.int p1), .val (.int p2), .val (.int (0 : Int32)), .val (.int (p1 + (p2 &&& (7 : Int32)))), .val (.int (((p1 + (p2 &&& (7 : Int32))) + (1 : Int32)) + (((p2.toUInt32 >>> ((3 : Int32) &&& 31).toUInt32).toInt32) &&& (7 : Int32)))), .val (.int (((((p1 + (p2 &&& (7 : Int32))) + (1 : Int32)) + (((p2.toUInt32 >>> ((3 : Int32) &&& 31).toUInt32).toInt32) &&& (7 : Int32))) + (1 : Int32)) + (((p2.toUInt32 >>> ((6 : Int32) &&& 31).toUInt32).toInt32) &&& (7 : Int32)))), .unset] [(.int (0 : Int32))])) (fun tgt cont => ?_) ?_
  · refine XT.bipushV X0.here hx rfl (6 : Int32) (hb hby d2_24) rfl ?_
    refine XS.iushr X0.here hx rfl (hb hby d2_26) rfl ?_
    refine XT.bipushV X0.here hx rfl (7 : Int32) (hb hby d2_27) rfl ?_
    refine XS.iand X0.here hx rfl (hb hby d2_29) rfl ?_
    refine XS.iadd X0.here hx rfl (hb hby d2_30) rfl ?_
    refine XS.istore X0.here hx rfl (hb hby d2_31) rfl (l' := #[.val (.int p1), .val (.int p2), .val (.int (0 : Int32)), .val (.int (p1 + (p2 &&& (7 : Int32)))), .val (.int (((p1 + (p2 &&& (7 : Int32))) + (1 : Int32)) + (((p2.toUInt32 >>> ((3 : Int32) &&& 31).toUInt32).toInt32) &&& (7 : Int32)))), .val (.int (((((p1 + (p2 &&& (7 : Int32))) + (1 : Int32)) + (((p2.toUInt32 >>> ((3 : Int32) &&& 31).toUInt32).toInt32) &&& (7 : Int32))) + (1 : Int32)) + (((p2.toUInt32 >>> ((6 : Int32) &&& 31).toUInt32).toInt32) &&& (7 : Int32)))), .unset]) rfl ?_
    refine XS.iloadN X0.here hx rfl (hb hby d2_33) rfl ?_
    exact cont
  obtain ⟨T1, h1, X1, e1, E1, A1, AE1, st1⟩ := own_newIA X0 hx hZ (hw _ (List.mem_of_getElem? (i := 9) rfl)) e0 (g := (mkF m 34 #[.val (.int p1), .val (.int p2), .val (.int (0 : Int32)), .val (.int (p1 + (p2 &&& (7 : Int32)))), .val (.int (((p1 + (p2 &&& (7 : Int32))) + (1 : Int32)) + (((p2.toUInt32 >>> ((3 : Int32) &&& 31).toUInt32).toInt32) &&& (7 : Int32)))), .val (.int (((((p1 + (p2 &&& (7 : Int32))) + (1 : Int32)) + (((p2.toUInt32 >>> ((3 : Int32) &&& 31).toUInt32).toInt32) &&& (7 : Int32))) + (1 : Int32)) + (((p2.toUInt32 >>> ((6 : Int32) &&& 31).toUInt32).toInt32) &&& (7 : Int32)))), .unset] [(.int (0 : Int32))])) rfl (hb hby d2_34) rfl (by decide) (cap := 0) (by decide) (by decide) (by decide) (by decide)
  obtain ⟨b1, g1⟩ : ∃ z, z = h0.size := ⟨_, rfl⟩
  rw [← g1] at A1 AE1 st1
  have g_b1 : n0 ≤ b1 := Nat.le_trans Z0 (Nat.le_of_eq g1.symm)
  have sz_b1 : h0.size ≤ b1 := Nat.le_trans (Keep.refl h0 []).1 (Nat.le_of_eq g1.symm)
  have kk1 : Keep h0 h1 [] := (Keep.refl h0 []).ext E1
  have zp1 : n0 ≤ h1.size := Nat.le_trans Z0 kk1.1
  have A1v : own_IA Z h1 b1 [] := A1
  refine own_go (fun tgt cont => st1 tgt cont) ?_
  show own_Go p e below s (Q_rm2_0 Z p1 p2 h0 n0) 1 3 (T1.setTop (mkF m 36 #[.val (.int p1), .val (.int p2), .val (.int (0 : Int32)), .val (.int (p1 + (p2 &&& (7 : Int32)))), .val (.int (((p1 + (p2 &&& (7 : Int32))) + (1 : Int32)) + (((p2.toUInt32 >>> ((3 : Int32) &&& 31).toUInt32).toInt32) &&& (7 : Int32)))), .val (.int (((((p1 + (p2 &&& (7 : Int32))) + (1 : Int32)) + (((p2.toUInt32 >>> ((3 : Int32) &&& 31).toUInt32).toInt32) &&& (7 : Int32))) + (1 : Int32)) + (((p2.toUInt32 >>> ((6 : Int32) &&& 31).toUInt32).toInt32) &&& (7 : Int32)))), .unset] [(.ref b1)]))
  refine own_go (B := T1.setTop (mkF m 71 #[.val (.int p1), .val (.int p2), .val (.int (0 : Int32)), .val (.int (p1 + (p2 &&& (7 : Int32)))), .val (.int (((p1 + (p2 &&& (7 : Int32))) + (1 : Int32)) + (((p2.toUInt32 >>> ((3 : Int32) &&& 31).toUInt32).toInt32) &&& (7 : Int32)))), .val (.int (((((p1 + (p2 &&& (7 : Int32))) + (1 : Int32)) + (((p2.toUInt32 >>> ((3 : Int32) &&& 31).toUInt32).toInt32) &&& (7 : Int32))) + (1 : Int32)) + (((p2.toUInt32 >>> ((6 : Int32) &&& 31).toUInt32).toInt32) &&& (7 : Int32)))), .val (.ref b1)] [(.ref b1)])) (fun tgt cont => ?_) ?_
  · refine XS.astore X1.here hx rfl (hb hby d2_36) rfl rfl (l' := #[.val (.int p1), .val (.int p2), .val (.int (0 : Int32)), .val (.int (p1 + (p2 &&& (7 : Int32)))), .val (.int (((p1 + (p2 &&& (7 : Int32))) + (1 : Int32)) + (((p2.toUInt32 >>> ((3 : Int32) &&& 31).toUInt32).toInt32) &&& (7 : Int32)))), .val (.int (((((p1 + (p2 &&& (7 : Int32))) + (1 : Int32)) + (((p2.toUInt32 >>> ((3 : Int32) &&& 31).toUInt32).toInt32) &&& (7 : Int32))) + (1 : Int32)) + (((p2.toUInt32 >>> ((6 : Int32) &&& 31).toUInt32).toInt32) &&& (7 : Int32)))), .val (.ref b1)]) rfl ?_
    refine XS.iloadN X1.here hx rfl (hb hby d2_38) rfl ?_
    refine XS.ifYes X1.here hx rfl (pc0 := 39) (pc' := 47) rfl (hb hby d2_39) rfl (XT.i0_le_t (by decide)) (by decide) (by decide) ?_
    refine XS.iloadN X1.here hx rfl (hb hby d2_47) rfl ?_
    refine XT.iconstV X1.here hx rfl (1 : Int32) (hb hby d2_48) rfl ?_
    refine XS.icmpYes X1.here hx rfl (pc0 := 49) (pc' := 58) rfl (hb hby d2_49) rfl (XT.ii_le_t (by decide)) (by decide) (by decide) ?_
    refine XS.iloadN X1.here hx rfl (hb hby d2_58) rfl ?_
    refine XT.iconstV X1.here hx rfl (2 : Int32) (hb hby d2_59) rfl ?_
    refine XS.icmpYes X1.here hx rfl (pc0 := 60) (pc' := 69) rfl (hb hby d2_60) rfl (XT.ii_le_t (by decide)) (by decide) (by decide) ?_
    refine XS.aload X1.here hx rfl (hb hby d2_69) rfl rfl ?_
    exact cont
  refine own_end X1 (v := some (.ref b1)) (fun h => by rw [Bd.returns] at h; cases h) hlk ?_ (by decide) (by decide) (fun fs hl => retOut X1 hx Bd.returns rfl (Or.inr (Or.inr (Or.inr (Or.inr ⟨rfl, rfl, rfl⟩)))) (hb hby d2_71) hl)
  rw [e1]
  exact ⟨_, rfl, N0, kk1, sz_b1, (by unfold own_bld0_l; exact A1v), AE1⟩
def own_bld1_l (p1 : Int32) (p2 : Int32) : List Int32 := [(p1 + (p2 &&& (7 : Int32)))]
def Q_rm2_1 (Z : State) (p1 : Int32) (p2 : Int32) (h0 : Heap) (n0 : Nat) (v : Option Value) (h : Heap) (L : List Loc) : Prop := ∃ b : Addr, v = some (.ref b) ∧ Fr n0 L ∧ Keep h0 h [] ∧ h0.size ≤ b ∧ own_IA Z h b (own_bld1_l p1 p2) ∧ Exa Z h b "[I"
theorem d2_42 : decode method_2_code 42 = .ok (.aload 6, 2) := by decide +kernel
theorem d2_44 : decode method_2_code 44 = .ok (.iconst 0, 1) := by decide +kernel
theorem d2_45 : decode method_2_code 45 = .ok (.iload_n 3, 1) := by decide +kernel
theorem d2_46 : decode method_2_code 46 = .ok (.iastore, 1) := by decide +kernel
set_option maxRecDepth 65536 in
set_option maxHeartbeats 40000000 in
theorem rm2_1 (l : Launch) (Z : State) (a0 : Array Value) (hw : ∀ d ∈ tables_1, d.before a0 Z = true) (ws : List Jvm.Cond) (p1 : Int32) (p2 : Int32) (h0 : Heap) (n0 : Nat) (Z0 : n0 ≤ h0.size)  :
    MetFree l (⟨"com/example/treebound/treebound/SortedSetsDisjointPinLaw", "build", "(III)[I"⟩ : MethodName) (head1 (Jvm.Cond.code (⟨"com/example/treebound/treebound/SortedSetsDisjointPinLaw", "build", "(III)[I"⟩ : MethodName) method_2_code 7 (some (.array .int)) :: ws) ({ frames := 0, cells := 1, slots := 3, locals := 0 } : Room)) (fun aa U => aa = #[(.int p1), (.int p2), (.int (1 : Int32))] ∧ Z.Warmed39 U.vm ∧ U.heap = h0) (fun _ _ _ _ _ => True) (fun _ U o U' => ∃ v L, o = .returned v ∧ Q_rm2_1 Z p1 p2 h0 n0 v U'.heap L ∧ FrameEnd U o U' L ({ frames := 0, cells := 1, slots := 3, locals := 0 } : Room).cells ({ frames := 0, cells := 1, slots := 3, locals := 0 } : Room).slots) := by
  refine MetFree.of_bodySF (plainFor_of_name own_pn0) hisR ?_
  intro p e s m args below meth c s₁ Bd hml0 hP hK
  obtain ⟨rfl, hZ, hh⟩ := hP
  have hx := Bd.exec
  have hby := Bd.bytes
  have hml : c.maxLocals = 7 := hml0
  have hlk : meth.locks = false := BodyLoose.notSynchronized Bd
  have hown : s.vm.findClass "com/example/treebound/treebound/SortedSetsDisjointPinLaw" = some m.cls := findClass_of_methodNamed Bd.named
  have hnm := (name_of_methodNamed Bd.named Bd.method).1
  have X0 : Stand p l e ({ frames := 0, cells := 1, slots := 3, locals := 0 } : Room) s m #[(.int p1), (.int p2), (.int (1 : Int32))] below meth c s₁ [] 0 0 := Stand.of_body Bd
  have e0 : s₁.heap = h0 := by rw [← hh, Bd.state]; rfl
  have N0 := Fr.nil n0
  show own_Go p e below s (Q_rm2_1 Z p1 p2 h0 n0) 1 3 (s₁.setTop (entryFrame m #[(.int p1), (.int p2), (.int (1 : Int32))] 7))
  refine own_go (B := s₁.setTop (mkF m 0 #[.val (.int p1), .val (.int p2), .val (.int (1 : Int32)), .unset, .unset, .unset, .unset] [])) (fun tgt cont => (XT.entry rfl).trans cont) ?_
  refine own_go (B := s₁.setTop (mkF m 11 #[.val (.int p1), .val (.int p2), .val (.int (1 : Int32)), .val (.int (p1 + (p2 &&& (7 : Int32)))), .unset, .unset, .unset] [(.int p2), (.int ((p1 + (p2 &&& (7 : Int32))) + (1 : Int32)))])) (fun tgt cont => ?_) ?_
  · refine XS.iloadN X0.here hx rfl (hb hby d2_0) rfl ?_
    refine XS.iloadN X0.here hx rfl (hb hby d2_1) rfl ?_
    refine XT.bipushV X0.here hx rfl (7 : Int32) (hb hby d2_2) rfl ?_
    refine XS.iand X0.here hx rfl (hb hby d2_4) rfl ?_
    refine XS.iadd X0.here hx rfl (hb hby d2_5) rfl ?_
    refine XS.istoreN X0.here hx rfl (hb hby d2_6) rfl (l' := #[.val (.int p1), .val (.int p2), .val (.int (1 : Int32)), .val (.int (p1 + (p2 &&& (7 : Int32)))), .unset, .unset, .unset]) rfl ?_
    refine XS.iloadN X0.here hx rfl (hb hby d2_7) rfl ?_
    refine XT.iconstV X0.here hx rfl (1 : Int32) (hb hby d2_8) rfl ?_
    refine XS.iadd X0.here hx rfl (hb hby d2_9) rfl ?_
    refine XS.iloadN X0.here hx rfl (hb hby d2_10) rfl ?_
    exact cont
  refine own_go (B := s₁.setTop (mkF m 24 #[.val (.int p1), .val (.int p2), .val (.int (1 : Int32)), .val (.int (p1 + (p2 &&& (7 : Int32)))), .val (.int (((p1 + (p2 &&& (7 : Int32))) + (1 : Int32)) + (((p2.toUInt32 >>> ((3 : Int32) &&& 31).toUInt32).toInt32) &&& (7 : Int32)))), .unset, .unset] [(.int p2), (.int ((((p1 + (p2 &&& (7 : Int32))) + (1 : Int32)) + (((p2.toUInt32 >>> ((3 : Int32) &&& 31).toUInt32).toInt32) &&& (7 : Int32))) + (1 : Int32)))])) (fun tgt cont => ?_) ?_
  · refine XT.iconstV X0.here hx rfl (3 : Int32) (hb hby d2_11) rfl ?_
    refine XS.iushr X0.here hx rfl (hb hby d2_12) rfl ?_
    refine XT.bipushV X0.here hx rfl (7 : Int32) (hb hby d2_13) rfl ?_
    refine XS.iand X0.here hx rfl (hb hby d2_15) rfl ?_
    refine XS.iadd X0.here hx rfl (hb hby d2_16) rfl ?_
    refine XS.istore X0.here hx rfl (hb hby d2_17) rfl (l' := #[.val (.int p1), .val (.int p2), .val (.int (1 : Int32)), .val (.int (p1 + (p2 &&& (7 : Int32)))), .val (.int (((p1 + (p2 &&& (7 : Int32))) + (1 : Int32)) + (((p2.toUInt32 >>> ((3 : Int32) &&& 31).toUInt32).toInt32) &&& (7 : Int32)))), .unset, .unset]) rfl ?_
    refine XS.iload X0.here hx rfl (hb hby d2_19) rfl ?_
    refine XT.iconstV X0.here hx rfl (1 : Int32) (hb hby d2_21) rfl ?_
    refine XS.iadd X0.here hx rfl (hb hby d2_22) rfl ?_
    refine XS.iloadN X0.here hx rfl (hb hby d2_23) rfl ?_
    exact cont
  refine own_go (B := s₁.setTop (mkF m 34 #[.val (.int p1), .val (.int p2), .val (.int (1 : Int32)), .val (.int (p1 + (p2 &&& (7 : Int32)))), .val (.int (((p1 + (p2 &&& (7 : Int32))) + (1 : Int32)) + (((p2.toUInt32 >>> ((3 : Int32) &&& 31).toUInt32).toInt32) &&& (7 : Int32)))), .val (.int (((((p1 + (p2 &&& (7 : Int32))) + (1 : Int32)) + (((p2.toUInt32 >>> ((3 : Int32) &&& 31).toUInt32).toInt32) &&& (7 : Int32))) + (1 : Int32)) + (((p2.toUInt32 >>> ((6 : Int32) &&& 31).toUInt32).toInt32) &&& (7 : Int32)))), .unset] [(.int (1 : Int32))])) (fun tgt cont => ?_) ?_
  · refine XT.bipushV X0.here hx rfl (6 : Int32) (hb hby d2_24) rfl ?_
    refine XS.iushr X0.here hx rfl (hb hby d2_26) rfl ?_
    refine XT.bipushV X0.here hx rfl (7 : Int32) (hb hby d2_27) rfl ?_
    refine XS.iand X0.here hx rfl (hb hby d2_29) rfl ?_
    refine XS.iadd X0.here hx rfl (hb hby d2_30) rfl ?_
    refine XS.istore X0.here hx rfl (hb hby d2_31) rfl (l' := #[.val (.int p1), .val (.int p2), .val (.int (1 : Int32)), .val (.int (p1 + (p2 &&& (7 : Int32)))), .val (.int (((p1 + (p2 &&& (7 : Int32))) + (1 : Int32)) + (((p2.toUInt32 >>> ((3 : Int32) &&& 31).toUInt32).toInt32) &&& (7 : Int32)))), .val (.int (((((p1 + (p2 &&& (7 : Int32))) + (1 : Int32)) + (((p2.toUInt32 >>> ((3 : Int32) &&& 31).toUInt32).toInt32) &&& (7 : Int32))) + (1 : Int32)) + (((p2.toUInt32 >>> ((6 : Int32) &&& 31).toUInt32).toInt32) &&& (7 : Int32)))), .unset]) rfl ?_
    refine XS.iloadN X0.here hx rfl (hb hby d2_33) rfl ?_
    exact cont
  obtain ⟨T1, h1, X1, e1, E1, A1, AE1, st1⟩ := own_newIA X0 hx hZ (hw _ (List.mem_of_getElem? (i := 9) rfl)) e0 (g := (mkF m 34 #[.val (.int p1), .val (.int p2), .val (.int (1 : Int32)), .val (.int (p1 + (p2 &&& (7 : Int32)))), .val (.int (((p1 + (p2 &&& (7 : Int32))) + (1 : Int32)) + (((p2.toUInt32 >>> ((3 : Int32) &&& 31).toUInt32).toInt32) &&& (7 : Int32)))), .val (.int (((((p1 + (p2 &&& (7 : Int32))) + (1 : Int32)) + (((p2.toUInt32 >>> ((3 : Int32) &&& 31).toUInt32).toInt32) &&& (7 : Int32))) + (1 : Int32)) + (((p2.toUInt32 >>> ((6 : Int32) &&& 31).toUInt32).toInt32) &&& (7 : Int32)))), .unset] [(.int (1 : Int32))])) rfl (hb hby d2_34) rfl (by decide) (cap := 1) (by decide) (by decide) (by decide) (by decide)
  obtain ⟨b1, g1⟩ : ∃ z, z = h0.size := ⟨_, rfl⟩
  rw [← g1] at A1 AE1 st1
  have g_b1 : n0 ≤ b1 := Nat.le_trans Z0 (Nat.le_of_eq g1.symm)
  have sz_b1 : h0.size ≤ b1 := Nat.le_trans (Keep.refl h0 []).1 (Nat.le_of_eq g1.symm)
  have kk1 : Keep h0 h1 [] := (Keep.refl h0 []).ext E1
  have zp1 : n0 ≤ h1.size := Nat.le_trans Z0 kk1.1
  have A1v : own_IA Z h1 b1 [(0 : Int32)] := A1
  refine own_go (fun tgt cont => st1 tgt cont) ?_
  show own_Go p e below s (Q_rm2_1 Z p1 p2 h0 n0) 1 3 (T1.setTop (mkF m 36 #[.val (.int p1), .val (.int p2), .val (.int (1 : Int32)), .val (.int (p1 + (p2 &&& (7 : Int32)))), .val (.int (((p1 + (p2 &&& (7 : Int32))) + (1 : Int32)) + (((p2.toUInt32 >>> ((3 : Int32) &&& 31).toUInt32).toInt32) &&& (7 : Int32)))), .val (.int (((((p1 + (p2 &&& (7 : Int32))) + (1 : Int32)) + (((p2.toUInt32 >>> ((3 : Int32) &&& 31).toUInt32).toInt32) &&& (7 : Int32))) + (1 : Int32)) + (((p2.toUInt32 >>> ((6 : Int32) &&& 31).toUInt32).toInt32) &&& (7 : Int32)))), .unset] [(.ref b1)]))
  refine own_go (B := T1.setTop (mkF m 46 #[.val (.int p1), .val (.int p2), .val (.int (1 : Int32)), .val (.int (p1 + (p2 &&& (7 : Int32)))), .val (.int (((p1 + (p2 &&& (7 : Int32))) + (1 : Int32)) + (((p2.toUInt32 >>> ((3 : Int32) &&& 31).toUInt32).toInt32) &&& (7 : Int32)))), .val (.int (((((p1 + (p2 &&& (7 : Int32))) + (1 : Int32)) + (((p2.toUInt32 >>> ((3 : Int32) &&& 31).toUInt32).toInt32) &&& (7 : Int32))) + (1 : Int32)) + (((p2.toUInt32 >>> ((6 : Int32) &&& 31).toUInt32).toInt32) &&& (7 : Int32)))), .val (.ref b1)] [(.int (p1 + (p2 &&& (7 : Int32)))), (.int (0 : Int32)), (.ref b1)])) (fun tgt cont => ?_) ?_
  · refine XS.astore X1.here hx rfl (hb hby d2_36) rfl rfl (l' := #[.val (.int p1), .val (.int p2), .val (.int (1 : Int32)), .val (.int (p1 + (p2 &&& (7 : Int32)))), .val (.int (((p1 + (p2 &&& (7 : Int32))) + (1 : Int32)) + (((p2.toUInt32 >>> ((3 : Int32) &&& 31).toUInt32).toInt32) &&& (7 : Int32)))), .val (.int (((((p1 + (p2 &&& (7 : Int32))) + (1 : Int32)) + (((p2.toUInt32 >>> ((3 : Int32) &&& 31).toUInt32).toInt32) &&& (7 : Int32))) + (1 : Int32)) + (((p2.toUInt32 >>> ((6 : Int32) &&& 31).toUInt32).toInt32) &&& (7 : Int32)))), .val (.ref b1)]) rfl ?_
    refine XS.iloadN X1.here hx rfl (hb hby d2_38) rfl ?_
    refine XS.ifNo X1.here hx rfl (hb hby d2_39) rfl (XT.i0_le_f (by decide)) ?_
    refine XS.aload X1.here hx rfl (hb hby d2_42) rfl rfl ?_
    refine XT.iconstV X1.here hx rfl (0 : Int32) (hb hby d2_44) rfl ?_
    refine XS.iloadN X1.here hx rfl (hb hby d2_45) rfl ?_
    exact cont
  obtain ⟨T2, h2, X2, e2, W2, A2, st2⟩ := own_stIA X1 hx hZ e1 A1v (j := (0 : Int32)) (x := (p1 + (p2 &&& (7 : Int32)))) ⟨by decide, Nat.le_of_ble_eq_true rfl⟩ (g := (mkF m 46 #[.val (.int p1), .val (.int p2), .val (.int (1 : Int32)), .val (.int (p1 + (p2 &&& (7 : Int32)))), .val (.int (((p1 + (p2 &&& (7 : Int32))) + (1 : Int32)) + (((p2.toUInt32 >>> ((3 : Int32) &&& 31).toUInt32).toInt32) &&& (7 : Int32)))), .val (.int (((((p1 + (p2 &&& (7 : Int32))) + (1 : Int32)) + (((p2.toUInt32 >>> ((3 : Int32) &&& 31).toUInt32).toInt32) &&& (7 : Int32))) + (1 : Int32)) + (((p2.toUInt32 >>> ((6 : Int32) &&& 31).toUInt32).toInt32) &&& (7 : Int32)))), .val (.ref b1)] [(.int (p1 + (p2 &&& (7 : Int32)))), (.int (0 : Int32)), (.ref b1)])) rfl rfl (hb hby d2_46)
  have N2 := Fr.snoc X2 N0 g_b1
  have kk2 : Keep h0 h2 [] := kk1.wr W2 (Or.inr sz_b1)
  have zp2 : n0 ≤ h2.size := Nat.le_trans Z0 kk2.1
  have A2v : own_IA Z h2 b1 [(p1 + (p2 &&& (7 : Int32)))] := A2
  refine own_go (fun tgt cont => st2 tgt cont) ?_
  show own_Go p e below s (Q_rm2_1 Z p1 p2 h0 n0) 1 3 (T2.setTop (mkF m 47 #[.val (.int p1), .val (.int p2), .val (.int (1 : Int32)), .val (.int (p1 + (p2 &&& (7 : Int32)))), .val (.int (((p1 + (p2 &&& (7 : Int32))) + (1 : Int32)) + (((p2.toUInt32 >>> ((3 : Int32) &&& 31).toUInt32).toInt32) &&& (7 : Int32)))), .val (.int (((((p1 + (p2 &&& (7 : Int32))) + (1 : Int32)) + (((p2.toUInt32 >>> ((3 : Int32) &&& 31).toUInt32).toInt32) &&& (7 : Int32))) + (1 : Int32)) + (((p2.toUInt32 >>> ((6 : Int32) &&& 31).toUInt32).toInt32) &&& (7 : Int32)))), .val (.ref b1)] []))
  refine own_go (B := T2.setTop (mkF m 71 #[.val (.int p1), .val (.int p2), .val (.int (1 : Int32)), .val (.int (p1 + (p2 &&& (7 : Int32)))), .val (.int (((p1 + (p2 &&& (7 : Int32))) + (1 : Int32)) + (((p2.toUInt32 >>> ((3 : Int32) &&& 31).toUInt32).toInt32) &&& (7 : Int32)))), .val (.int (((((p1 + (p2 &&& (7 : Int32))) + (1 : Int32)) + (((p2.toUInt32 >>> ((3 : Int32) &&& 31).toUInt32).toInt32) &&& (7 : Int32))) + (1 : Int32)) + (((p2.toUInt32 >>> ((6 : Int32) &&& 31).toUInt32).toInt32) &&& (7 : Int32)))), .val (.ref b1)] [(.ref b1)])) (fun tgt cont => ?_) ?_
  · refine XS.iloadN X2.here hx rfl (hb hby d2_47) rfl ?_
    refine XT.iconstV X2.here hx rfl (1 : Int32) (hb hby d2_48) rfl ?_
    refine XS.icmpYes X2.here hx rfl (pc0 := 49) (pc' := 58) rfl (hb hby d2_49) rfl (XT.ii_le_t (by decide)) (by decide) (by decide) ?_
    refine XS.iloadN X2.here hx rfl (hb hby d2_58) rfl ?_
    refine XT.iconstV X2.here hx rfl (2 : Int32) (hb hby d2_59) rfl ?_
    refine XS.icmpYes X2.here hx rfl (pc0 := 60) (pc' := 69) rfl (hb hby d2_60) rfl (XT.ii_le_t (by decide)) (by decide) (by decide) ?_
    refine XS.aload X2.here hx rfl (hb hby d2_69) rfl rfl ?_
    exact cont
  refine own_end X2 (v := some (.ref b1)) (fun h => by rw [Bd.returns] at h; cases h) hlk ?_ (by decide) (by decide) (fun fs hl => retOut X2 hx Bd.returns rfl (Or.inr (Or.inr (Or.inr (Or.inr ⟨rfl, rfl, rfl⟩)))) (hb hby d2_71) hl)
  have f3 := (AE1.wr W2)
  rw [e2]
  exact ⟨_, rfl, N2, kk2, sz_b1, (by unfold own_bld1_l; exact A2v), f3⟩
def own_bld2_l (p1 : Int32) (p2 : Int32) : List Int32 := [(p1 + (p2 &&& (7 : Int32))), (((p1 + (p2 &&& (7 : Int32))) + (1 : Int32)) + (((p2.toUInt32 >>> ((3 : Int32) &&& 31).toUInt32).toInt32) &&& (7 : Int32)))]
def Q_rm2_2 (Z : State) (p1 : Int32) (p2 : Int32) (h0 : Heap) (n0 : Nat) (v : Option Value) (h : Heap) (L : List Loc) : Prop := ∃ b : Addr, v = some (.ref b) ∧ Fr n0 L ∧ Keep h0 h [] ∧ h0.size ≤ b ∧ own_IA Z h b (own_bld2_l p1 p2) ∧ Exa Z h b "[I"
theorem d2_52 : decode method_2_code 52 = .ok (.aload 6, 2) := by decide +kernel
theorem d2_54 : decode method_2_code 54 = .ok (.iconst 1, 1) := by decide +kernel
theorem d2_55 : decode method_2_code 55 = .ok (.iload 4, 2) := by decide +kernel
theorem d2_57 : decode method_2_code 57 = .ok (.iastore, 1) := by decide +kernel
set_option maxRecDepth 65536 in
set_option maxHeartbeats 40000000 in
theorem rm2_2 (l : Launch) (Z : State) (a0 : Array Value) (hw : ∀ d ∈ tables_1, d.before a0 Z = true) (ws : List Jvm.Cond) (p1 : Int32) (p2 : Int32) (h0 : Heap) (n0 : Nat) (Z0 : n0 ≤ h0.size)  :
    MetFree l (⟨"com/example/treebound/treebound/SortedSetsDisjointPinLaw", "build", "(III)[I"⟩ : MethodName) (head1 (Jvm.Cond.code (⟨"com/example/treebound/treebound/SortedSetsDisjointPinLaw", "build", "(III)[I"⟩ : MethodName) method_2_code 7 (some (.array .int)) :: ws) ({ frames := 0, cells := 1, slots := 3, locals := 0 } : Room)) (fun aa U => aa = #[(.int p1), (.int p2), (.int (2 : Int32))] ∧ Z.Warmed39 U.vm ∧ U.heap = h0) (fun _ _ _ _ _ => True) (fun _ U o U' => ∃ v L, o = .returned v ∧ Q_rm2_2 Z p1 p2 h0 n0 v U'.heap L ∧ FrameEnd U o U' L ({ frames := 0, cells := 1, slots := 3, locals := 0 } : Room).cells ({ frames := 0, cells := 1, slots := 3, locals := 0 } : Room).slots) := by
  refine MetFree.of_bodySF (plainFor_of_name own_pn0) hisR ?_
  intro p e s m args below meth c s₁ Bd hml0 hP hK
  obtain ⟨rfl, hZ, hh⟩ := hP
  have hx := Bd.exec
  have hby := Bd.bytes
  have hml : c.maxLocals = 7 := hml0
  have hlk : meth.locks = false := BodyLoose.notSynchronized Bd
  have hown : s.vm.findClass "com/example/treebound/treebound/SortedSetsDisjointPinLaw" = some m.cls := findClass_of_methodNamed Bd.named
  have hnm := (name_of_methodNamed Bd.named Bd.method).1
  have X0 : Stand p l e ({ frames := 0, cells := 1, slots := 3, locals := 0 } : Room) s m #[(.int p1), (.int p2), (.int (2 : Int32))] below meth c s₁ [] 0 0 := Stand.of_body Bd
  have e0 : s₁.heap = h0 := by rw [← hh, Bd.state]; rfl
  have N0 := Fr.nil n0
  show own_Go p e below s (Q_rm2_2 Z p1 p2 h0 n0) 1 3 (s₁.setTop (entryFrame m #[(.int p1), (.int p2), (.int (2 : Int32))] 7))
  refine own_go (B := s₁.setTop (mkF m 0 #[.val (.int p1), .val (.int p2), .val (.int (2 : Int32)), .unset, .unset, .unset, .unset] [])) (fun tgt cont => (XT.entry rfl).trans cont) ?_
  refine own_go (B := s₁.setTop (mkF m 11 #[.val (.int p1), .val (.int p2), .val (.int (2 : Int32)), .val (.int (p1 + (p2 &&& (7 : Int32)))), .unset, .unset, .unset] [(.int p2), (.int ((p1 + (p2 &&& (7 : Int32))) + (1 : Int32)))])) (fun tgt cont => ?_) ?_
  · refine XS.iloadN X0.here hx rfl (hb hby d2_0) rfl ?_
    refine XS.iloadN X0.here hx rfl (hb hby d2_1) rfl ?_
    refine XT.bipushV X0.here hx rfl (7 : Int32) (hb hby d2_2) rfl ?_
    refine XS.iand X0.here hx rfl (hb hby d2_4) rfl ?_
    refine XS.iadd X0.here hx rfl (hb hby d2_5) rfl ?_
    refine XS.istoreN X0.here hx rfl (hb hby d2_6) rfl (l' := #[.val (.int p1), .val (.int p2), .val (.int (2 : Int32)), .val (.int (p1 + (p2 &&& (7 : Int32)))), .unset, .unset, .unset]) rfl ?_
    refine XS.iloadN X0.here hx rfl (hb hby d2_7) rfl ?_
    refine XT.iconstV X0.here hx rfl (1 : Int32) (hb hby d2_8) rfl ?_
    refine XS.iadd X0.here hx rfl (hb hby d2_9) rfl ?_
    refine XS.iloadN X0.here hx rfl (hb hby d2_10) rfl ?_
    exact cont
  refine own_go (B := s₁.setTop (mkF m 24 #[.val (.int p1), .val (.int p2), .val (.int (2 : Int32)), .val (.int (p1 + (p2 &&& (7 : Int32)))), .val (.int (((p1 + (p2 &&& (7 : Int32))) + (1 : Int32)) + (((p2.toUInt32 >>> ((3 : Int32) &&& 31).toUInt32).toInt32) &&& (7 : Int32)))), .unset, .unset] [(.int p2), (.int ((((p1 + (p2 &&& (7 : Int32))) + (1 : Int32)) + (((p2.toUInt32 >>> ((3 : Int32) &&& 31).toUInt32).toInt32) &&& (7 : Int32))) + (1 : Int32)))])) (fun tgt cont => ?_) ?_
  · refine XT.iconstV X0.here hx rfl (3 : Int32) (hb hby d2_11) rfl ?_
    refine XS.iushr X0.here hx rfl (hb hby d2_12) rfl ?_
    refine XT.bipushV X0.here hx rfl (7 : Int32) (hb hby d2_13) rfl ?_
    refine XS.iand X0.here hx rfl (hb hby d2_15) rfl ?_
    refine XS.iadd X0.here hx rfl (hb hby d2_16) rfl ?_
    refine XS.istore X0.here hx rfl (hb hby d2_17) rfl (l' := #[.val (.int p1), .val (.int p2), .val (.int (2 : Int32)), .val (.int (p1 + (p2 &&& (7 : Int32)))), .val (.int (((p1 + (p2 &&& (7 : Int32))) + (1 : Int32)) + (((p2.toUInt32 >>> ((3 : Int32) &&& 31).toUInt32).toInt32) &&& (7 : Int32)))), .unset, .unset]) rfl ?_
    refine XS.iload X0.here hx rfl (hb hby d2_19) rfl ?_
    refine XT.iconstV X0.here hx rfl (1 : Int32) (hb hby d2_21) rfl ?_
    refine XS.iadd X0.here hx rfl (hb hby d2_22) rfl ?_
    refine XS.iloadN X0.here hx rfl (hb hby d2_23) rfl ?_
    exact cont
  refine own_go (B := s₁.setTop (mkF m 34 #[.val (.int p1), .val (.int p2), .val (.int (2 : Int32)), .val (.int (p1 + (p2 &&& (7 : Int32)))), .val (.int (((p1 + (p2 &&& (7 : Int32))) + (1 : Int32)) + (((p2.toUInt32 >>> ((3 : Int32) &&& 31).toUInt32).toInt32) &&& (7 : Int32)))), .val (.int (((((p1 + (p2 &&& (7 : Int32))) + (1 : Int32)) + (((p2.toUInt32 >>> ((3 : Int32) &&& 31).toUInt32).toInt32) &&& (7 : Int32))) + (1 : Int32)) + (((p2.toUInt32 >>> ((6 : Int32) &&& 31).toUInt32).toInt32) &&& (7 : Int32)))), .unset] [(.int (2 : Int32))])) (fun tgt cont => ?_) ?_
  · refine XT.bipushV X0.here hx rfl (6 : Int32) (hb hby d2_24) rfl ?_
    refine XS.iushr X0.here hx rfl (hb hby d2_26) rfl ?_
    refine XT.bipushV X0.here hx rfl (7 : Int32) (hb hby d2_27) rfl ?_
    refine XS.iand X0.here hx rfl (hb hby d2_29) rfl ?_
    refine XS.iadd X0.here hx rfl (hb hby d2_30) rfl ?_
    refine XS.istore X0.here hx rfl (hb hby d2_31) rfl (l' := #[.val (.int p1), .val (.int p2), .val (.int (2 : Int32)), .val (.int (p1 + (p2 &&& (7 : Int32)))), .val (.int (((p1 + (p2 &&& (7 : Int32))) + (1 : Int32)) + (((p2.toUInt32 >>> ((3 : Int32) &&& 31).toUInt32).toInt32) &&& (7 : Int32)))), .val (.int (((((p1 + (p2 &&& (7 : Int32))) + (1 : Int32)) + (((p2.toUInt32 >>> ((3 : Int32) &&& 31).toUInt32).toInt32) &&& (7 : Int32))) + (1 : Int32)) + (((p2.toUInt32 >>> ((6 : Int32) &&& 31).toUInt32).toInt32) &&& (7 : Int32)))), .unset]) rfl ?_
    refine XS.iloadN X0.here hx rfl (hb hby d2_33) rfl ?_
    exact cont
  obtain ⟨T1, h1, X1, e1, E1, A1, AE1, st1⟩ := own_newIA X0 hx hZ (hw _ (List.mem_of_getElem? (i := 9) rfl)) e0 (g := (mkF m 34 #[.val (.int p1), .val (.int p2), .val (.int (2 : Int32)), .val (.int (p1 + (p2 &&& (7 : Int32)))), .val (.int (((p1 + (p2 &&& (7 : Int32))) + (1 : Int32)) + (((p2.toUInt32 >>> ((3 : Int32) &&& 31).toUInt32).toInt32) &&& (7 : Int32)))), .val (.int (((((p1 + (p2 &&& (7 : Int32))) + (1 : Int32)) + (((p2.toUInt32 >>> ((3 : Int32) &&& 31).toUInt32).toInt32) &&& (7 : Int32))) + (1 : Int32)) + (((p2.toUInt32 >>> ((6 : Int32) &&& 31).toUInt32).toInt32) &&& (7 : Int32)))), .unset] [(.int (2 : Int32))])) rfl (hb hby d2_34) rfl (by decide) (cap := 2) (by decide) (by decide) (by decide) (by decide)
  obtain ⟨b1, g1⟩ : ∃ z, z = h0.size := ⟨_, rfl⟩
  rw [← g1] at A1 AE1 st1
  have g_b1 : n0 ≤ b1 := Nat.le_trans Z0 (Nat.le_of_eq g1.symm)
  have sz_b1 : h0.size ≤ b1 := Nat.le_trans (Keep.refl h0 []).1 (Nat.le_of_eq g1.symm)
  have kk1 : Keep h0 h1 [] := (Keep.refl h0 []).ext E1
  have zp1 : n0 ≤ h1.size := Nat.le_trans Z0 kk1.1
  have A1v : own_IA Z h1 b1 [(0 : Int32), (0 : Int32)] := A1
  refine own_go (fun tgt cont => st1 tgt cont) ?_
  show own_Go p e below s (Q_rm2_2 Z p1 p2 h0 n0) 1 3 (T1.setTop (mkF m 36 #[.val (.int p1), .val (.int p2), .val (.int (2 : Int32)), .val (.int (p1 + (p2 &&& (7 : Int32)))), .val (.int (((p1 + (p2 &&& (7 : Int32))) + (1 : Int32)) + (((p2.toUInt32 >>> ((3 : Int32) &&& 31).toUInt32).toInt32) &&& (7 : Int32)))), .val (.int (((((p1 + (p2 &&& (7 : Int32))) + (1 : Int32)) + (((p2.toUInt32 >>> ((3 : Int32) &&& 31).toUInt32).toInt32) &&& (7 : Int32))) + (1 : Int32)) + (((p2.toUInt32 >>> ((6 : Int32) &&& 31).toUInt32).toInt32) &&& (7 : Int32)))), .unset] [(.ref b1)]))
  refine own_go (B := T1.setTop (mkF m 46 #[.val (.int p1), .val (.int p2), .val (.int (2 : Int32)), .val (.int (p1 + (p2 &&& (7 : Int32)))), .val (.int (((p1 + (p2 &&& (7 : Int32))) + (1 : Int32)) + (((p2.toUInt32 >>> ((3 : Int32) &&& 31).toUInt32).toInt32) &&& (7 : Int32)))), .val (.int (((((p1 + (p2 &&& (7 : Int32))) + (1 : Int32)) + (((p2.toUInt32 >>> ((3 : Int32) &&& 31).toUInt32).toInt32) &&& (7 : Int32))) + (1 : Int32)) + (((p2.toUInt32 >>> ((6 : Int32) &&& 31).toUInt32).toInt32) &&& (7 : Int32)))), .val (.ref b1)] [(.int (p1 + (p2 &&& (7 : Int32)))), (.int (0 : Int32)), (.ref b1)])) (fun tgt cont => ?_) ?_
  · refine XS.astore X1.here hx rfl (hb hby d2_36) rfl rfl (l' := #[.val (.int p1), .val (.int p2), .val (.int (2 : Int32)), .val (.int (p1 + (p2 &&& (7 : Int32)))), .val (.int (((p1 + (p2 &&& (7 : Int32))) + (1 : Int32)) + (((p2.toUInt32 >>> ((3 : Int32) &&& 31).toUInt32).toInt32) &&& (7 : Int32)))), .val (.int (((((p1 + (p2 &&& (7 : Int32))) + (1 : Int32)) + (((p2.toUInt32 >>> ((3 : Int32) &&& 31).toUInt32).toInt32) &&& (7 : Int32))) + (1 : Int32)) + (((p2.toUInt32 >>> ((6 : Int32) &&& 31).toUInt32).toInt32) &&& (7 : Int32)))), .val (.ref b1)]) rfl ?_
    refine XS.iloadN X1.here hx rfl (hb hby d2_38) rfl ?_
    refine XS.ifNo X1.here hx rfl (hb hby d2_39) rfl (XT.i0_le_f (by decide)) ?_
    refine XS.aload X1.here hx rfl (hb hby d2_42) rfl rfl ?_
    refine XT.iconstV X1.here hx rfl (0 : Int32) (hb hby d2_44) rfl ?_
    refine XS.iloadN X1.here hx rfl (hb hby d2_45) rfl ?_
    exact cont
  obtain ⟨T2, h2, X2, e2, W2, A2, st2⟩ := own_stIA X1 hx hZ e1 A1v (j := (0 : Int32)) (x := (p1 + (p2 &&& (7 : Int32)))) ⟨by decide, Nat.le_of_ble_eq_true rfl⟩ (g := (mkF m 46 #[.val (.int p1), .val (.int p2), .val (.int (2 : Int32)), .val (.int (p1 + (p2 &&& (7 : Int32)))), .val (.int (((p1 + (p2 &&& (7 : Int32))) + (1 : Int32)) + (((p2.toUInt32 >>> ((3 : Int32) &&& 31).toUInt32).toInt32) &&& (7 : Int32)))), .val (.int (((((p1 + (p2 &&& (7 : Int32))) + (1 : Int32)) + (((p2.toUInt32 >>> ((3 : Int32) &&& 31).toUInt32).toInt32) &&& (7 : Int32))) + (1 : Int32)) + (((p2.toUInt32 >>> ((6 : Int32) &&& 31).toUInt32).toInt32) &&& (7 : Int32)))), .val (.ref b1)] [(.int (p1 + (p2 &&& (7 : Int32)))), (.int (0 : Int32)), (.ref b1)])) rfl rfl (hb hby d2_46)
  have N2 := Fr.snoc X2 N0 g_b1
  have kk2 : Keep h0 h2 [] := kk1.wr W2 (Or.inr sz_b1)
  have zp2 : n0 ≤ h2.size := Nat.le_trans Z0 kk2.1
  have A2v : own_IA Z h2 b1 [(p1 + (p2 &&& (7 : Int32))), (0 : Int32)] := A2
  refine own_go (fun tgt cont => st2 tgt cont) ?_
  show own_Go p e below s (Q_rm2_2 Z p1 p2 h0 n0) 1 3 (T2.setTop (mkF m 47 #[.val (.int p1), .val (.int p2), .val (.int (2 : Int32)), .val (.int (p1 + (p2 &&& (7 : Int32)))), .val (.int (((p1 + (p2 &&& (7 : Int32))) + (1 : Int32)) + (((p2.toUInt32 >>> ((3 : Int32) &&& 31).toUInt32).toInt32) &&& (7 : Int32)))), .val (.int (((((p1 + (p2 &&& (7 : Int32))) + (1 : Int32)) + (((p2.toUInt32 >>> ((3 : Int32) &&& 31).toUInt32).toInt32) &&& (7 : Int32))) + (1 : Int32)) + (((p2.toUInt32 >>> ((6 : Int32) &&& 31).toUInt32).toInt32) &&& (7 : Int32)))), .val (.ref b1)] []))
  refine own_go (B := T2.setTop (mkF m 57 #[.val (.int p1), .val (.int p2), .val (.int (2 : Int32)), .val (.int (p1 + (p2 &&& (7 : Int32)))), .val (.int (((p1 + (p2 &&& (7 : Int32))) + (1 : Int32)) + (((p2.toUInt32 >>> ((3 : Int32) &&& 31).toUInt32).toInt32) &&& (7 : Int32)))), .val (.int (((((p1 + (p2 &&& (7 : Int32))) + (1 : Int32)) + (((p2.toUInt32 >>> ((3 : Int32) &&& 31).toUInt32).toInt32) &&& (7 : Int32))) + (1 : Int32)) + (((p2.toUInt32 >>> ((6 : Int32) &&& 31).toUInt32).toInt32) &&& (7 : Int32)))), .val (.ref b1)] [(.int (((p1 + (p2 &&& (7 : Int32))) + (1 : Int32)) + (((p2.toUInt32 >>> ((3 : Int32) &&& 31).toUInt32).toInt32) &&& (7 : Int32)))), (.int (1 : Int32)), (.ref b1)])) (fun tgt cont => ?_) ?_
  · refine XS.iloadN X2.here hx rfl (hb hby d2_47) rfl ?_
    refine XT.iconstV X2.here hx rfl (1 : Int32) (hb hby d2_48) rfl ?_
    refine XS.icmpNo X2.here hx rfl (hb hby d2_49) rfl (XT.ii_le_f (by decide)) ?_
    refine XS.aload X2.here hx rfl (hb hby d2_52) rfl rfl ?_
    refine XT.iconstV X2.here hx rfl (1 : Int32) (hb hby d2_54) rfl ?_
    refine XS.iload X2.here hx rfl (hb hby d2_55) rfl ?_
    exact cont
  obtain ⟨T3, h3, X3, e3, W3, A3, st3⟩ := own_stIA X2 hx hZ e2 A2v (j := (1 : Int32)) (x := (((p1 + (p2 &&& (7 : Int32))) + (1 : Int32)) + (((p2.toUInt32 >>> ((3 : Int32) &&& 31).toUInt32).toInt32) &&& (7 : Int32)))) ⟨by decide, Nat.le_of_ble_eq_true rfl⟩ (g := (mkF m 57 #[.val (.int p1), .val (.int p2), .val (.int (2 : Int32)), .val (.int (p1 + (p2 &&& (7 : Int32)))), .val (.int (((p1 + (p2 &&& (7 : Int32))) + (1 : Int32)) + (((p2.toUInt32 >>> ((3 : Int32) &&& 31).toUInt32).toInt32) &&& (7 : Int32)))), .val (.int (((((p1 + (p2 &&& (7 : Int32))) + (1 : Int32)) + (((p2.toUInt32 >>> ((3 : Int32) &&& 31).toUInt32).toInt32) &&& (7 : Int32))) + (1 : Int32)) + (((p2.toUInt32 >>> ((6 : Int32) &&& 31).toUInt32).toInt32) &&& (7 : Int32)))), .val (.ref b1)] [(.int (((p1 + (p2 &&& (7 : Int32))) + (1 : Int32)) + (((p2.toUInt32 >>> ((3 : Int32) &&& 31).toUInt32).toInt32) &&& (7 : Int32)))), (.int (1 : Int32)), (.ref b1)])) rfl rfl (hb hby d2_57)
  have N3 := Fr.snoc X3 N2 g_b1
  have kk3 : Keep h0 h3 [] := kk2.wr W3 (Or.inr sz_b1)
  have zp3 : n0 ≤ h3.size := Nat.le_trans Z0 kk3.1
  have A3v : own_IA Z h3 b1 [(p1 + (p2 &&& (7 : Int32))), (((p1 + (p2 &&& (7 : Int32))) + (1 : Int32)) + (((p2.toUInt32 >>> ((3 : Int32) &&& 31).toUInt32).toInt32) &&& (7 : Int32)))] := A3
  refine own_go (fun tgt cont => st3 tgt cont) ?_
  show own_Go p e below s (Q_rm2_2 Z p1 p2 h0 n0) 1 3 (T3.setTop (mkF m 58 #[.val (.int p1), .val (.int p2), .val (.int (2 : Int32)), .val (.int (p1 + (p2 &&& (7 : Int32)))), .val (.int (((p1 + (p2 &&& (7 : Int32))) + (1 : Int32)) + (((p2.toUInt32 >>> ((3 : Int32) &&& 31).toUInt32).toInt32) &&& (7 : Int32)))), .val (.int (((((p1 + (p2 &&& (7 : Int32))) + (1 : Int32)) + (((p2.toUInt32 >>> ((3 : Int32) &&& 31).toUInt32).toInt32) &&& (7 : Int32))) + (1 : Int32)) + (((p2.toUInt32 >>> ((6 : Int32) &&& 31).toUInt32).toInt32) &&& (7 : Int32)))), .val (.ref b1)] []))
  refine own_go (B := T3.setTop (mkF m 71 #[.val (.int p1), .val (.int p2), .val (.int (2 : Int32)), .val (.int (p1 + (p2 &&& (7 : Int32)))), .val (.int (((p1 + (p2 &&& (7 : Int32))) + (1 : Int32)) + (((p2.toUInt32 >>> ((3 : Int32) &&& 31).toUInt32).toInt32) &&& (7 : Int32)))), .val (.int (((((p1 + (p2 &&& (7 : Int32))) + (1 : Int32)) + (((p2.toUInt32 >>> ((3 : Int32) &&& 31).toUInt32).toInt32) &&& (7 : Int32))) + (1 : Int32)) + (((p2.toUInt32 >>> ((6 : Int32) &&& 31).toUInt32).toInt32) &&& (7 : Int32)))), .val (.ref b1)] [(.ref b1)])) (fun tgt cont => ?_) ?_
  · refine XS.iloadN X3.here hx rfl (hb hby d2_58) rfl ?_
    refine XT.iconstV X3.here hx rfl (2 : Int32) (hb hby d2_59) rfl ?_
    refine XS.icmpYes X3.here hx rfl (pc0 := 60) (pc' := 69) rfl (hb hby d2_60) rfl (XT.ii_le_t (by decide)) (by decide) (by decide) ?_
    refine XS.aload X3.here hx rfl (hb hby d2_69) rfl rfl ?_
    exact cont
  refine own_end X3 (v := some (.ref b1)) (fun h => by rw [Bd.returns] at h; cases h) hlk ?_ (by decide) (by decide) (fun fs hl => retOut X3 hx Bd.returns rfl (Or.inr (Or.inr (Or.inr (Or.inr ⟨rfl, rfl, rfl⟩)))) (hb hby d2_71) hl)
  have f4 := ((AE1.wr W2).wr W3)
  rw [e3]
  exact ⟨_, rfl, N3, kk3, sz_b1, (by unfold own_bld2_l; exact A3v), f4⟩
def own_bld3_l (p1 : Int32) (p2 : Int32) : List Int32 := [(p1 + (p2 &&& (7 : Int32))), (((p1 + (p2 &&& (7 : Int32))) + (1 : Int32)) + (((p2.toUInt32 >>> ((3 : Int32) &&& 31).toUInt32).toInt32) &&& (7 : Int32))), (((((p1 + (p2 &&& (7 : Int32))) + (1 : Int32)) + (((p2.toUInt32 >>> ((3 : Int32) &&& 31).toUInt32).toInt32) &&& (7 : Int32))) + (1 : Int32)) + (((p2.toUInt32 >>> ((6 : Int32) &&& 31).toUInt32).toInt32) &&& (7 : Int32)))]
def Q_rm2_3 (Z : State) (p1 : Int32) (p2 : Int32) (h0 : Heap) (n0 : Nat) (v : Option Value) (h : Heap) (L : List Loc) : Prop := ∃ b : Addr, v = some (.ref b) ∧ Fr n0 L ∧ Keep h0 h [] ∧ h0.size ≤ b ∧ own_IA Z h b (own_bld3_l p1 p2) ∧ Exa Z h b "[I"
theorem d2_63 : decode method_2_code 63 = .ok (.aload 6, 2) := by decide +kernel
theorem d2_65 : decode method_2_code 65 = .ok (.iconst 2, 1) := by decide +kernel
theorem d2_66 : decode method_2_code 66 = .ok (.iload 5, 2) := by decide +kernel
theorem d2_68 : decode method_2_code 68 = .ok (.iastore, 1) := by decide +kernel
set_option maxRecDepth 65536 in
set_option maxHeartbeats 40000000 in
theorem rm2_3 (l : Launch) (Z : State) (a0 : Array Value) (hw : ∀ d ∈ tables_1, d.before a0 Z = true) (ws : List Jvm.Cond) (p1 : Int32) (p2 : Int32) (h0 : Heap) (n0 : Nat) (Z0 : n0 ≤ h0.size)  :
    MetFree l (⟨"com/example/treebound/treebound/SortedSetsDisjointPinLaw", "build", "(III)[I"⟩ : MethodName) (head1 (Jvm.Cond.code (⟨"com/example/treebound/treebound/SortedSetsDisjointPinLaw", "build", "(III)[I"⟩ : MethodName) method_2_code 7 (some (.array .int)) :: ws) ({ frames := 0, cells := 1, slots := 3, locals := 0 } : Room)) (fun aa U => aa = #[(.int p1), (.int p2), (.int (3 : Int32))] ∧ Z.Warmed39 U.vm ∧ U.heap = h0) (fun _ _ _ _ _ => True) (fun _ U o U' => ∃ v L, o = .returned v ∧ Q_rm2_3 Z p1 p2 h0 n0 v U'.heap L ∧ FrameEnd U o U' L ({ frames := 0, cells := 1, slots := 3, locals := 0 } : Room).cells ({ frames := 0, cells := 1, slots := 3, locals := 0 } : Room).slots) := by
  refine MetFree.of_bodySF (plainFor_of_name own_pn0) hisR ?_
  intro p e s m args below meth c s₁ Bd hml0 hP hK
  obtain ⟨rfl, hZ, hh⟩ := hP
  have hx := Bd.exec
  have hby := Bd.bytes
  have hml : c.maxLocals = 7 := hml0
  have hlk : meth.locks = false := BodyLoose.notSynchronized Bd
  have hown : s.vm.findClass "com/example/treebound/treebound/SortedSetsDisjointPinLaw" = some m.cls := findClass_of_methodNamed Bd.named
  have hnm := (name_of_methodNamed Bd.named Bd.method).1
  have X0 : Stand p l e ({ frames := 0, cells := 1, slots := 3, locals := 0 } : Room) s m #[(.int p1), (.int p2), (.int (3 : Int32))] below meth c s₁ [] 0 0 := Stand.of_body Bd
  have e0 : s₁.heap = h0 := by rw [← hh, Bd.state]; rfl
  have N0 := Fr.nil n0
  show own_Go p e below s (Q_rm2_3 Z p1 p2 h0 n0) 1 3 (s₁.setTop (entryFrame m #[(.int p1), (.int p2), (.int (3 : Int32))] 7))
  refine own_go (B := s₁.setTop (mkF m 0 #[.val (.int p1), .val (.int p2), .val (.int (3 : Int32)), .unset, .unset, .unset, .unset] [])) (fun tgt cont => (XT.entry rfl).trans cont) ?_
  refine own_go (B := s₁.setTop (mkF m 11 #[.val (.int p1), .val (.int p2), .val (.int (3 : Int32)), .val (.int (p1 + (p2 &&& (7 : Int32)))), .unset, .unset, .unset] [(.int p2), (.int ((p1 + (p2 &&& (7 : Int32))) + (1 : Int32)))])) (fun tgt cont => ?_) ?_
  · refine XS.iloadN X0.here hx rfl (hb hby d2_0) rfl ?_
    refine XS.iloadN X0.here hx rfl (hb hby d2_1) rfl ?_
    refine XT.bipushV X0.here hx rfl (7 : Int32) (hb hby d2_2) rfl ?_
    refine XS.iand X0.here hx rfl (hb hby d2_4) rfl ?_
    refine XS.iadd X0.here hx rfl (hb hby d2_5) rfl ?_
    refine XS.istoreN X0.here hx rfl (hb hby d2_6) rfl (l' := #[.val (.int p1), .val (.int p2), .val (.int (3 : Int32)), .val (.int (p1 + (p2 &&& (7 : Int32)))), .unset, .unset, .unset]) rfl ?_
    refine XS.iloadN X0.here hx rfl (hb hby d2_7) rfl ?_
    refine XT.iconstV X0.here hx rfl (1 : Int32) (hb hby d2_8) rfl ?_
    refine XS.iadd X0.here hx rfl (hb hby d2_9) rfl ?_
    refine XS.iloadN X0.here hx rfl (hb hby d2_10) rfl ?_
    exact cont
  refine own_go (B := s₁.setTop (mkF m 24 #[.val (.int p1), .val (.int p2), .val (.int (3 : Int32)), .val (.int (p1 + (p2 &&& (7 : Int32)))), .val (.int (((p1 + (p2 &&& (7 : Int32))) + (1 : Int32)) + (((p2.toUInt32 >>> ((3 : Int32) &&& 31).toUInt32).toInt32) &&& (7 : Int32)))), .unset, .unset] [(.int p2), (.int ((((p1 + (p2 &&& (7 : Int32))) + (1 : Int32)) + (((p2.toUInt32 >>> ((3 : Int32) &&& 31).toUInt32).toInt32) &&& (7 : Int32))) + (1 : Int32)))])) (fun tgt cont => ?_) ?_
  · refine XT.iconstV X0.here hx rfl (3 : Int32) (hb hby d2_11) rfl ?_
    refine XS.iushr X0.here hx rfl (hb hby d2_12) rfl ?_
    refine XT.bipushV X0.here hx rfl (7 : Int32) (hb hby d2_13) rfl ?_
    refine XS.iand X0.here hx rfl (hb hby d2_15) rfl ?_
    refine XS.iadd X0.here hx rfl (hb hby d2_16) rfl ?_
    refine XS.istore X0.here hx rfl (hb hby d2_17) rfl (l' := #[.val (.int p1), .val (.int p2), .val (.int (3 : Int32)), .val (.int (p1 + (p2 &&& (7 : Int32)))), .val (.int (((p1 + (p2 &&& (7 : Int32))) + (1 : Int32)) + (((p2.toUInt32 >>> ((3 : Int32) &&& 31).toUInt32).toInt32) &&& (7 : Int32)))), .unset, .unset]) rfl ?_
    refine XS.iload X0.here hx rfl (hb hby d2_19) rfl ?_
    refine XT.iconstV X0.here hx rfl (1 : Int32) (hb hby d2_21) rfl ?_
    refine XS.iadd X0.here hx rfl (hb hby d2_22) rfl ?_
    refine XS.iloadN X0.here hx rfl (hb hby d2_23) rfl ?_
    exact cont
  refine own_go (B := s₁.setTop (mkF m 34 #[.val (.int p1), .val (.int p2), .val (.int (3 : Int32)), .val (.int (p1 + (p2 &&& (7 : Int32)))), .val (.int (((p1 + (p2 &&& (7 : Int32))) + (1 : Int32)) + (((p2.toUInt32 >>> ((3 : Int32) &&& 31).toUInt32).toInt32) &&& (7 : Int32)))), .val (.int (((((p1 + (p2 &&& (7 : Int32))) + (1 : Int32)) + (((p2.toUInt32 >>> ((3 : Int32) &&& 31).toUInt32).toInt32) &&& (7 : Int32))) + (1 : Int32)) + (((p2.toUInt32 >>> ((6 : Int32) &&& 31).toUInt32).toInt32) &&& (7 : Int32)))), .unset] [(.int (3 : Int32))])) (fun tgt cont => ?_) ?_
  · refine XT.bipushV X0.here hx rfl (6 : Int32) (hb hby d2_24) rfl ?_
    refine XS.iushr X0.here hx rfl (hb hby d2_26) rfl ?_
    refine XT.bipushV X0.here hx rfl (7 : Int32) (hb hby d2_27) rfl ?_
    refine XS.iand X0.here hx rfl (hb hby d2_29) rfl ?_
    refine XS.iadd X0.here hx rfl (hb hby d2_30) rfl ?_
    refine XS.istore X0.here hx rfl (hb hby d2_31) rfl (l' := #[.val (.int p1), .val (.int p2), .val (.int (3 : Int32)), .val (.int (p1 + (p2 &&& (7 : Int32)))), .val (.int (((p1 + (p2 &&& (7 : Int32))) + (1 : Int32)) + (((p2.toUInt32 >>> ((3 : Int32) &&& 31).toUInt32).toInt32) &&& (7 : Int32)))), .val (.int (((((p1 + (p2 &&& (7 : Int32))) + (1 : Int32)) + (((p2.toUInt32 >>> ((3 : Int32) &&& 31).toUInt32).toInt32) &&& (7 : Int32))) + (1 : Int32)) + (((p2.toUInt32 >>> ((6 : Int32) &&& 31).toUInt32).toInt32) &&& (7 : Int32)))), .unset]) rfl ?_
    refine XS.iloadN X0.here hx rfl (hb hby d2_33) rfl ?_
    exact cont
  obtain ⟨T1, h1, X1, e1, E1, A1, AE1, st1⟩ := own_newIA X0 hx hZ (hw _ (List.mem_of_getElem? (i := 9) rfl)) e0 (g := (mkF m 34 #[.val (.int p1), .val (.int p2), .val (.int (3 : Int32)), .val (.int (p1 + (p2 &&& (7 : Int32)))), .val (.int (((p1 + (p2 &&& (7 : Int32))) + (1 : Int32)) + (((p2.toUInt32 >>> ((3 : Int32) &&& 31).toUInt32).toInt32) &&& (7 : Int32)))), .val (.int (((((p1 + (p2 &&& (7 : Int32))) + (1 : Int32)) + (((p2.toUInt32 >>> ((3 : Int32) &&& 31).toUInt32).toInt32) &&& (7 : Int32))) + (1 : Int32)) + (((p2.toUInt32 >>> ((6 : Int32) &&& 31).toUInt32).toInt32) &&& (7 : Int32)))), .unset] [(.int (3 : Int32))])) rfl (hb hby d2_34) rfl (by decide) (cap := 3) (by decide) (by decide) (by decide) (by decide)
  obtain ⟨b1, g1⟩ : ∃ z, z = h0.size := ⟨_, rfl⟩
  rw [← g1] at A1 AE1 st1
  have g_b1 : n0 ≤ b1 := Nat.le_trans Z0 (Nat.le_of_eq g1.symm)
  have sz_b1 : h0.size ≤ b1 := Nat.le_trans (Keep.refl h0 []).1 (Nat.le_of_eq g1.symm)
  have kk1 : Keep h0 h1 [] := (Keep.refl h0 []).ext E1
  have zp1 : n0 ≤ h1.size := Nat.le_trans Z0 kk1.1
  have A1v : own_IA Z h1 b1 [(0 : Int32), (0 : Int32), (0 : Int32)] := A1
  refine own_go (fun tgt cont => st1 tgt cont) ?_
  show own_Go p e below s (Q_rm2_3 Z p1 p2 h0 n0) 1 3 (T1.setTop (mkF m 36 #[.val (.int p1), .val (.int p2), .val (.int (3 : Int32)), .val (.int (p1 + (p2 &&& (7 : Int32)))), .val (.int (((p1 + (p2 &&& (7 : Int32))) + (1 : Int32)) + (((p2.toUInt32 >>> ((3 : Int32) &&& 31).toUInt32).toInt32) &&& (7 : Int32)))), .val (.int (((((p1 + (p2 &&& (7 : Int32))) + (1 : Int32)) + (((p2.toUInt32 >>> ((3 : Int32) &&& 31).toUInt32).toInt32) &&& (7 : Int32))) + (1 : Int32)) + (((p2.toUInt32 >>> ((6 : Int32) &&& 31).toUInt32).toInt32) &&& (7 : Int32)))), .unset] [(.ref b1)]))
  refine own_go (B := T1.setTop (mkF m 46 #[.val (.int p1), .val (.int p2), .val (.int (3 : Int32)), .val (.int (p1 + (p2 &&& (7 : Int32)))), .val (.int (((p1 + (p2 &&& (7 : Int32))) + (1 : Int32)) + (((p2.toUInt32 >>> ((3 : Int32) &&& 31).toUInt32).toInt32) &&& (7 : Int32)))), .val (.int (((((p1 + (p2 &&& (7 : Int32))) + (1 : Int32)) + (((p2.toUInt32 >>> ((3 : Int32) &&& 31).toUInt32).toInt32) &&& (7 : Int32))) + (1 : Int32)) + (((p2.toUInt32 >>> ((6 : Int32) &&& 31).toUInt32).toInt32) &&& (7 : Int32)))), .val (.ref b1)] [(.int (p1 + (p2 &&& (7 : Int32)))), (.int (0 : Int32)), (.ref b1)])) (fun tgt cont => ?_) ?_
  · refine XS.astore X1.here hx rfl (hb hby d2_36) rfl rfl (l' := #[.val (.int p1), .val (.int p2), .val (.int (3 : Int32)), .val (.int (p1 + (p2 &&& (7 : Int32)))), .val (.int (((p1 + (p2 &&& (7 : Int32))) + (1 : Int32)) + (((p2.toUInt32 >>> ((3 : Int32) &&& 31).toUInt32).toInt32) &&& (7 : Int32)))), .val (.int (((((p1 + (p2 &&& (7 : Int32))) + (1 : Int32)) + (((p2.toUInt32 >>> ((3 : Int32) &&& 31).toUInt32).toInt32) &&& (7 : Int32))) + (1 : Int32)) + (((p2.toUInt32 >>> ((6 : Int32) &&& 31).toUInt32).toInt32) &&& (7 : Int32)))), .val (.ref b1)]) rfl ?_
    refine XS.iloadN X1.here hx rfl (hb hby d2_38) rfl ?_
    refine XS.ifNo X1.here hx rfl (hb hby d2_39) rfl (XT.i0_le_f (by decide)) ?_
    refine XS.aload X1.here hx rfl (hb hby d2_42) rfl rfl ?_
    refine XT.iconstV X1.here hx rfl (0 : Int32) (hb hby d2_44) rfl ?_
    refine XS.iloadN X1.here hx rfl (hb hby d2_45) rfl ?_
    exact cont
  obtain ⟨T2, h2, X2, e2, W2, A2, st2⟩ := own_stIA X1 hx hZ e1 A1v (j := (0 : Int32)) (x := (p1 + (p2 &&& (7 : Int32)))) ⟨by decide, Nat.le_of_ble_eq_true rfl⟩ (g := (mkF m 46 #[.val (.int p1), .val (.int p2), .val (.int (3 : Int32)), .val (.int (p1 + (p2 &&& (7 : Int32)))), .val (.int (((p1 + (p2 &&& (7 : Int32))) + (1 : Int32)) + (((p2.toUInt32 >>> ((3 : Int32) &&& 31).toUInt32).toInt32) &&& (7 : Int32)))), .val (.int (((((p1 + (p2 &&& (7 : Int32))) + (1 : Int32)) + (((p2.toUInt32 >>> ((3 : Int32) &&& 31).toUInt32).toInt32) &&& (7 : Int32))) + (1 : Int32)) + (((p2.toUInt32 >>> ((6 : Int32) &&& 31).toUInt32).toInt32) &&& (7 : Int32)))), .val (.ref b1)] [(.int (p1 + (p2 &&& (7 : Int32)))), (.int (0 : Int32)), (.ref b1)])) rfl rfl (hb hby d2_46)
  have N2 := Fr.snoc X2 N0 g_b1
  have kk2 : Keep h0 h2 [] := kk1.wr W2 (Or.inr sz_b1)
  have zp2 : n0 ≤ h2.size := Nat.le_trans Z0 kk2.1
  have A2v : own_IA Z h2 b1 [(p1 + (p2 &&& (7 : Int32))), (0 : Int32), (0 : Int32)] := A2
  refine own_go (fun tgt cont => st2 tgt cont) ?_
  show own_Go p e below s (Q_rm2_3 Z p1 p2 h0 n0) 1 3 (T2.setTop (mkF m 47 #[.val (.int p1), .val (.int p2), .val (.int (3 : Int32)), .val (.int (p1 + (p2 &&& (7 : Int32)))), .val (.int (((p1 + (p2 &&& (7 : Int32))) + (1 : Int32)) + (((p2.toUInt32 >>> ((3 : Int32) &&& 31).toUInt32).toInt32) &&& (7 : Int32)))), .val (.int (((((p1 + (p2 &&& (7 : Int32))) + (1 : Int32)) + (((p2.toUInt32 >>> ((3 : Int32) &&& 31).toUInt32).toInt32) &&& (7 : Int32))) + (1 : Int32)) + (((p2.toUInt32 >>> ((6 : Int32) &&& 31).toUInt32).toInt32) &&& (7 : Int32)))), .val (.ref b1)] []))
  refine own_go (B := T2.setTop (mkF m 57 #[.val (.int p1), .val (.int p2), .val (.int (3 : Int32)), .val (.int (p1 + (p2 &&& (7 : Int32)))), .val (.int (((p1 + (p2 &&& (7 : Int32))) + (1 : Int32)) + (((p2.toUInt32 >>> ((3 : Int32) &&& 31).toUInt32).toInt32) &&& (7 : Int32)))), .val (.int (((((p1 + (p2 &&& (7 : Int32))) + (1 : Int32)) + (((p2.toUInt32 >>> ((3 : Int32) &&& 31).toUInt32).toInt32) &&& (7 : Int32))) + (1 : Int32)) + (((p2.toUInt32 >>> ((6 : Int32) &&& 31).toUInt32).toInt32) &&& (7 : Int32)))), .val (.ref b1)] [(.int (((p1 + (p2 &&& (7 : Int32))) + (1 : Int32)) + (((p2.toUInt32 >>> ((3 : Int32) &&& 31).toUInt32).toInt32) &&& (7 : Int32)))), (.int (1 : Int32)), (.ref b1)])) (fun tgt cont => ?_) ?_
  · refine XS.iloadN X2.here hx rfl (hb hby d2_47) rfl ?_
    refine XT.iconstV X2.here hx rfl (1 : Int32) (hb hby d2_48) rfl ?_
    refine XS.icmpNo X2.here hx rfl (hb hby d2_49) rfl (XT.ii_le_f (by decide)) ?_
    refine XS.aload X2.here hx rfl (hb hby d2_52) rfl rfl ?_
    refine XT.iconstV X2.here hx rfl (1 : Int32) (hb hby d2_54) rfl ?_
    refine XS.iload X2.here hx rfl (hb hby d2_55) rfl ?_
    exact cont
  obtain ⟨T3, h3, X3, e3, W3, A3, st3⟩ := own_stIA X2 hx hZ e2 A2v (j := (1 : Int32)) (x := (((p1 + (p2 &&& (7 : Int32))) + (1 : Int32)) + (((p2.toUInt32 >>> ((3 : Int32) &&& 31).toUInt32).toInt32) &&& (7 : Int32)))) ⟨by decide, Nat.le_of_ble_eq_true rfl⟩ (g := (mkF m 57 #[.val (.int p1), .val (.int p2), .val (.int (3 : Int32)), .val (.int (p1 + (p2 &&& (7 : Int32)))), .val (.int (((p1 + (p2 &&& (7 : Int32))) + (1 : Int32)) + (((p2.toUInt32 >>> ((3 : Int32) &&& 31).toUInt32).toInt32) &&& (7 : Int32)))), .val (.int (((((p1 + (p2 &&& (7 : Int32))) + (1 : Int32)) + (((p2.toUInt32 >>> ((3 : Int32) &&& 31).toUInt32).toInt32) &&& (7 : Int32))) + (1 : Int32)) + (((p2.toUInt32 >>> ((6 : Int32) &&& 31).toUInt32).toInt32) &&& (7 : Int32)))), .val (.ref b1)] [(.int (((p1 + (p2 &&& (7 : Int32))) + (1 : Int32)) + (((p2.toUInt32 >>> ((3 : Int32) &&& 31).toUInt32).toInt32) &&& (7 : Int32)))), (.int (1 : Int32)), (.ref b1)])) rfl rfl (hb hby d2_57)
  have N3 := Fr.snoc X3 N2 g_b1
  have kk3 : Keep h0 h3 [] := kk2.wr W3 (Or.inr sz_b1)
  have zp3 : n0 ≤ h3.size := Nat.le_trans Z0 kk3.1
  have A3v : own_IA Z h3 b1 [(p1 + (p2 &&& (7 : Int32))), (((p1 + (p2 &&& (7 : Int32))) + (1 : Int32)) + (((p2.toUInt32 >>> ((3 : Int32) &&& 31).toUInt32).toInt32) &&& (7 : Int32))), (0 : Int32)] := A3
  refine own_go (fun tgt cont => st3 tgt cont) ?_
  show own_Go p e below s (Q_rm2_3 Z p1 p2 h0 n0) 1 3 (T3.setTop (mkF m 58 #[.val (.int p1), .val (.int p2), .val (.int (3 : Int32)), .val (.int (p1 + (p2 &&& (7 : Int32)))), .val (.int (((p1 + (p2 &&& (7 : Int32))) + (1 : Int32)) + (((p2.toUInt32 >>> ((3 : Int32) &&& 31).toUInt32).toInt32) &&& (7 : Int32)))), .val (.int (((((p1 + (p2 &&& (7 : Int32))) + (1 : Int32)) + (((p2.toUInt32 >>> ((3 : Int32) &&& 31).toUInt32).toInt32) &&& (7 : Int32))) + (1 : Int32)) + (((p2.toUInt32 >>> ((6 : Int32) &&& 31).toUInt32).toInt32) &&& (7 : Int32)))), .val (.ref b1)] []))
  refine own_go (B := T3.setTop (mkF m 68 #[.val (.int p1), .val (.int p2), .val (.int (3 : Int32)), .val (.int (p1 + (p2 &&& (7 : Int32)))), .val (.int (((p1 + (p2 &&& (7 : Int32))) + (1 : Int32)) + (((p2.toUInt32 >>> ((3 : Int32) &&& 31).toUInt32).toInt32) &&& (7 : Int32)))), .val (.int (((((p1 + (p2 &&& (7 : Int32))) + (1 : Int32)) + (((p2.toUInt32 >>> ((3 : Int32) &&& 31).toUInt32).toInt32) &&& (7 : Int32))) + (1 : Int32)) + (((p2.toUInt32 >>> ((6 : Int32) &&& 31).toUInt32).toInt32) &&& (7 : Int32)))), .val (.ref b1)] [(.int (((((p1 + (p2 &&& (7 : Int32))) + (1 : Int32)) + (((p2.toUInt32 >>> ((3 : Int32) &&& 31).toUInt32).toInt32) &&& (7 : Int32))) + (1 : Int32)) + (((p2.toUInt32 >>> ((6 : Int32) &&& 31).toUInt32).toInt32) &&& (7 : Int32)))), (.int (2 : Int32)), (.ref b1)])) (fun tgt cont => ?_) ?_
  · refine XS.iloadN X3.here hx rfl (hb hby d2_58) rfl ?_
    refine XT.iconstV X3.here hx rfl (2 : Int32) (hb hby d2_59) rfl ?_
    refine XS.icmpNo X3.here hx rfl (hb hby d2_60) rfl (XT.ii_le_f (by decide)) ?_
    refine XS.aload X3.here hx rfl (hb hby d2_63) rfl rfl ?_
    refine XT.iconstV X3.here hx rfl (2 : Int32) (hb hby d2_65) rfl ?_
    refine XS.iload X3.here hx rfl (hb hby d2_66) rfl ?_
    exact cont
  obtain ⟨T4, h4, X4, e4, W4, A4, st4⟩ := own_stIA X3 hx hZ e3 A3v (j := (2 : Int32)) (x := (((((p1 + (p2 &&& (7 : Int32))) + (1 : Int32)) + (((p2.toUInt32 >>> ((3 : Int32) &&& 31).toUInt32).toInt32) &&& (7 : Int32))) + (1 : Int32)) + (((p2.toUInt32 >>> ((6 : Int32) &&& 31).toUInt32).toInt32) &&& (7 : Int32)))) ⟨by decide, Nat.le_of_ble_eq_true rfl⟩ (g := (mkF m 68 #[.val (.int p1), .val (.int p2), .val (.int (3 : Int32)), .val (.int (p1 + (p2 &&& (7 : Int32)))), .val (.int (((p1 + (p2 &&& (7 : Int32))) + (1 : Int32)) + (((p2.toUInt32 >>> ((3 : Int32) &&& 31).toUInt32).toInt32) &&& (7 : Int32)))), .val (.int (((((p1 + (p2 &&& (7 : Int32))) + (1 : Int32)) + (((p2.toUInt32 >>> ((3 : Int32) &&& 31).toUInt32).toInt32) &&& (7 : Int32))) + (1 : Int32)) + (((p2.toUInt32 >>> ((6 : Int32) &&& 31).toUInt32).toInt32) &&& (7 : Int32)))), .val (.ref b1)] [(.int (((((p1 + (p2 &&& (7 : Int32))) + (1 : Int32)) + (((p2.toUInt32 >>> ((3 : Int32) &&& 31).toUInt32).toInt32) &&& (7 : Int32))) + (1 : Int32)) + (((p2.toUInt32 >>> ((6 : Int32) &&& 31).toUInt32).toInt32) &&& (7 : Int32)))), (.int (2 : Int32)), (.ref b1)])) rfl rfl (hb hby d2_68)
  have N4 := Fr.snoc X4 N3 g_b1
  have kk4 : Keep h0 h4 [] := kk3.wr W4 (Or.inr sz_b1)
  have zp4 : n0 ≤ h4.size := Nat.le_trans Z0 kk4.1
  have A4v : own_IA Z h4 b1 [(p1 + (p2 &&& (7 : Int32))), (((p1 + (p2 &&& (7 : Int32))) + (1 : Int32)) + (((p2.toUInt32 >>> ((3 : Int32) &&& 31).toUInt32).toInt32) &&& (7 : Int32))), (((((p1 + (p2 &&& (7 : Int32))) + (1 : Int32)) + (((p2.toUInt32 >>> ((3 : Int32) &&& 31).toUInt32).toInt32) &&& (7 : Int32))) + (1 : Int32)) + (((p2.toUInt32 >>> ((6 : Int32) &&& 31).toUInt32).toInt32) &&& (7 : Int32)))] := A4
  refine own_go (fun tgt cont => st4 tgt cont) ?_
  show own_Go p e below s (Q_rm2_3 Z p1 p2 h0 n0) 1 3 (T4.setTop (mkF m 69 #[.val (.int p1), .val (.int p2), .val (.int (3 : Int32)), .val (.int (p1 + (p2 &&& (7 : Int32)))), .val (.int (((p1 + (p2 &&& (7 : Int32))) + (1 : Int32)) + (((p2.toUInt32 >>> ((3 : Int32) &&& 31).toUInt32).toInt32) &&& (7 : Int32)))), .val (.int (((((p1 + (p2 &&& (7 : Int32))) + (1 : Int32)) + (((p2.toUInt32 >>> ((3 : Int32) &&& 31).toUInt32).toInt32) &&& (7 : Int32))) + (1 : Int32)) + (((p2.toUInt32 >>> ((6 : Int32) &&& 31).toUInt32).toInt32) &&& (7 : Int32)))), .val (.ref b1)] []))
  refine own_go (B := T4.setTop (mkF m 71 #[.val (.int p1), .val (.int p2), .val (.int (3 : Int32)), .val (.int (p1 + (p2 &&& (7 : Int32)))), .val (.int (((p1 + (p2 &&& (7 : Int32))) + (1 : Int32)) + (((p2.toUInt32 >>> ((3 : Int32) &&& 31).toUInt32).toInt32) &&& (7 : Int32)))), .val (.int (((((p1 + (p2 &&& (7 : Int32))) + (1 : Int32)) + (((p2.toUInt32 >>> ((3 : Int32) &&& 31).toUInt32).toInt32) &&& (7 : Int32))) + (1 : Int32)) + (((p2.toUInt32 >>> ((6 : Int32) &&& 31).toUInt32).toInt32) &&& (7 : Int32)))), .val (.ref b1)] [(.ref b1)])) (fun tgt cont => ?_) ?_
  · refine XS.aload X4.here hx rfl (hb hby d2_69) rfl rfl ?_
    exact cont
  refine own_end X4 (v := some (.ref b1)) (fun h => by rw [Bd.returns] at h; cases h) hlk ?_ (by decide) (by decide) (fun fs hl => retOut X4 hx Bd.returns rfl (Or.inr (Or.inr (Or.inr (Or.inr ⟨rfl, rfl, rfl⟩)))) (hb hby d2_71) hl)
  have f5 := (((AE1.wr W2).wr W3).wr W4)
  rw [e4]
  exact ⟨_, rfl, N4, kk4, sz_b1, (by unfold own_bld3_l; exact A4v), f5⟩
def own_bld (p1 p2 p3 : Int32) : List Int32 := List.take p3.toNatClampNeg [(p1 + (p2 &&& (7 : Int32))), (((p1 + (p2 &&& (7 : Int32))) + (1 : Int32)) + (((p2.toUInt32 >>> ((3 : Int32) &&& 31).toUInt32).toInt32) &&& (7 : Int32))), (((((p1 + (p2 &&& (7 : Int32))) + (1 : Int32)) + (((p2.toUInt32 >>> ((3 : Int32) &&& 31).toUInt32).toInt32) &&& (7 : Int32))) + (1 : Int32)) + (((p2.toUInt32 >>> ((6 : Int32) &&& 31).toUInt32).toInt32) &&& (7 : Int32)))]
def Q_rm2 (Z : State) (p1 p2 p3 : Int32) (h0 : Heap) (n0 : Nat) (v : Option Value) (h : Heap) (L : List Loc) : Prop := ∃ b : Addr, v = some (.ref b) ∧ Fr n0 L ∧ Keep h0 h [] ∧ h0.size ≤ b ∧ own_IA Z h b (own_bld p1 p2 p3) ∧ Exa Z h b "[I"
set_option maxRecDepth 65536 in
theorem rm2 (l : Launch) (Z : State) (a0 : Array Value) (hw : ∀ d ∈ tables_1, d.before a0 Z = true) (ws : List Jvm.Cond) (p1 p2 p3 : Int32) (h0 : Heap) (n0 : Nat) (Z0 : n0 ≤ h0.size) (hl : p3 = 0 ∨ p3 = 1 ∨ p3 = 2 ∨ p3 = 3) :
    MetFree l (⟨"com/example/treebound/treebound/SortedSetsDisjointPinLaw", "build", "(III)[I"⟩ : MethodName) (head1 (Jvm.Cond.code (⟨"com/example/treebound/treebound/SortedSetsDisjointPinLaw", "build", "(III)[I"⟩ : MethodName) method_2_code 7 (some (.array .int)) :: ws) ({ frames := 0, cells := 1, slots := 3, locals := 0 } : Room)) (fun aa U => aa = #[(.int p1), (.int p2), (.int p3)] ∧ Z.Warmed39 U.vm ∧ U.heap = h0) (fun _ _ _ _ _ => True) (fun _ U o U' => ∃ v L, o = .returned v ∧ Q_rm2 Z p1 p2 p3 h0 n0 v U'.heap L ∧ FrameEnd U o U' L ({ frames := 0, cells := 1, slots := 3, locals := 0 } : Room).cells ({ frames := 0, cells := 1, slots := 3, locals := 0 } : Room).slots) := by
  rcases hl with rfl | rfl | rfl | rfl
  · exact rm2_0 l Z a0 hw ws p1 p2 h0 n0 Z0
  · exact rm2_1 l Z a0 hw ws p1 p2 h0 n0 Z0
  · exact rm2_2 l Z a0 hw ws p1 p2 h0 n0 Z0
  · exact rm2_3 l Z a0 hw ws p1 p2 h0 n0 Z0
def own_inl_r (p1 : Int32) (vs : List Int32) : Int32 := (nar .boolean ((if (2 : Int32) < (Int32.ofNat vs.length) then (if (vs.getD (2 : Int32).toNatClampNeg 0) = p1 then (1 : Int32) else ((if (1 : Int32) < (Int32.ofNat vs.length) then (if (vs.getD (1 : Int32).toNatClampNeg 0) = p1 then (1 : Int32) else ((if 0 < (Int32.ofNat vs.length) then (if (vs.getD (0 : Int32).toNatClampNeg 0) = p1 then (1 : Int32) else (0 : Int32)) else (0 : Int32)))) else ((if 0 < (Int32.ofNat vs.length) then (if (vs.getD (0 : Int32).toNatClampNeg 0) = p1 then (1 : Int32) else (0 : Int32)) else (0 : Int32)))))) else ((if (1 : Int32) < (Int32.ofNat vs.length) then (if (vs.getD (1 : Int32).toNatClampNeg 0) = p1 then (1 : Int32) else ((if 0 < (Int32.ofNat vs.length) then (if (vs.getD (0 : Int32).toNatClampNeg 0) = p1 then (1 : Int32) else (0 : Int32)) else (0 : Int32)))) else ((if 0 < (Int32.ofNat vs.length) then (if (vs.getD (0 : Int32).toNatClampNeg 0) = p1 then (1 : Int32) else (0 : Int32)) else (0 : Int32))))))))
def Q_rm4 (Z : State) (a : Addr) (p1 : Int32) (vs : List Int32) (h0 : Heap) (n0 : Nat) (v : Option Value) (h : Heap) (L : List Loc) : Prop := v = some (.int (own_inl_r p1 vs)) ∧ Fr n0 L ∧ h = h0
theorem d4_0 : decode method_3_code 0 = .ok (.iconst 0, 1) := by decide +kernel
theorem d4_1 : decode method_3_code 1 = .ok (.istore_n 2, 1) := by decide +kernel
theorem d4_2 : decode method_3_code 2 = .ok (.aload_n 0, 1) := by decide +kernel
theorem d4_3 : decode method_3_code 3 = .ok (.arraylength, 1) := by decide +kernel
theorem d4_4 : decode method_3_code 4 = .ok (.ifCond .le 12, 3) := by decide +kernel
theorem d4_7 : decode method_3_code 7 = .ok (.aload_n 0, 1) := by decide +kernel
theorem d4_8 : decode method_3_code 8 = .ok (.iconst 0, 1) := by decide +kernel
theorem d4_9 : decode method_3_code 9 = .ok (.iaload, 1) := by decide +kernel
theorem d4_10 : decode method_3_code 10 = .ok (.iload_n 1, 1) := by decide +kernel
theorem d4_11 : decode method_3_code 11 = .ok (.if_icmp .ne 5, 3) := by decide +kernel
theorem d4_14 : decode method_3_code 14 = .ok (.iconst 1, 1) := by decide +kernel
theorem d4_15 : decode method_3_code 15 = .ok (.istore_n 2, 1) := by decide +kernel
theorem d4_16 : decode method_3_code 16 = .ok (.aload_n 0, 1) := by decide +kernel
theorem d4_17 : decode method_3_code 17 = .ok (.arraylength, 1) := by decide +kernel
theorem d4_18 : decode method_3_code 18 = .ok (.iconst 1, 1) := by decide +kernel
theorem d4_19 : decode method_3_code 19 = .ok (.if_icmp .le 12, 3) := by decide +kernel
theorem d4_22 : decode method_3_code 22 = .ok (.aload_n 0, 1) := by decide +kernel
theorem d4_23 : decode method_3_code 23 = .ok (.iconst 1, 1) := by decide +kernel
theorem d4_24 : decode method_3_code 24 = .ok (.iaload, 1) := by decide +kernel
theorem d4_25 : decode method_3_code 25 = .ok (.iload_n 1, 1) := by decide +kernel
theorem d4_26 : decode method_3_code 26 = .ok (.if_icmp .ne 5, 3) := by decide +kernel
theorem d4_29 : decode method_3_code 29 = .ok (.iconst 1, 1) := by decide +kernel
theorem d4_30 : decode method_3_code 30 = .ok (.istore_n 2, 1) := by decide +kernel
theorem d4_31 : decode method_3_code 31 = .ok (.aload_n 0, 1) := by decide +kernel
theorem d4_32 : decode method_3_code 32 = .ok (.arraylength, 1) := by decide +kernel
theorem d4_33 : decode method_3_code 33 = .ok (.iconst 2, 1) := by decide +kernel
theorem d4_34 : decode method_3_code 34 = .ok (.if_icmp .le 12, 3) := by decide +kernel
theorem d4_37 : decode method_3_code 37 = .ok (.aload_n 0, 1) := by decide +kernel
theorem d4_38 : decode method_3_code 38 = .ok (.iconst 2, 1) := by decide +kernel
theorem d4_39 : decode method_3_code 39 = .ok (.iaload, 1) := by decide +kernel
theorem d4_40 : decode method_3_code 40 = .ok (.iload_n 1, 1) := by decide +kernel
theorem d4_41 : decode method_3_code 41 = .ok (.if_icmp .ne 5, 3) := by decide +kernel
theorem d4_44 : decode method_3_code 44 = .ok (.iconst 1, 1) := by decide +kernel
theorem d4_45 : decode method_3_code 45 = .ok (.istore_n 2, 1) := by decide +kernel
theorem d4_46 : decode method_3_code 46 = .ok (.iload_n 2, 1) := by decide +kernel
theorem d4_47 : decode method_3_code 47 = .ok (.ireturn, 1) := by decide +kernel
set_option maxRecDepth 65536 in
set_option maxHeartbeats 40000000 in
theorem rm4 (l : Launch) (Z : State) (a0 : Array Value) (hw : ∀ d ∈ tables_1, d.before a0 Z = true) (ws : List Jvm.Cond) (a : Addr) (p1 : Int32) (vs : List Int32) (h0 : Heap) (n0 : Nat) (Z0 : n0 ≤ h0.size) (A_a : own_IA Z h0 a vs)  :
    MetFree l (⟨"com/example/treebound/treebound/SortedSetsDisjointPinLaw", "in", "([II)Z"⟩ : MethodName) (head1 (Jvm.Cond.code (⟨"com/example/treebound/treebound/SortedSetsDisjointPinLaw", "in", "([II)Z"⟩ : MethodName) method_3_code 3 (some .boolean) :: ws) ({ frames := 0, cells := 0, slots := 0, locals := 0 } : Room)) (fun aa U => aa = #[(.ref a), (.int p1)] ∧ Z.Warmed39 U.vm ∧ U.heap = h0) (fun _ _ _ _ _ => True) (fun _ U o U' => ∃ v L, o = .returned v ∧ Q_rm4 Z a p1 vs h0 n0 v U'.heap L ∧ FrameEnd U o U' L ({ frames := 0, cells := 0, slots := 0, locals := 0 } : Room).cells ({ frames := 0, cells := 0, slots := 0, locals := 0 } : Room).slots) := by
  refine MetFree.of_bodySF (plainFor_of_name own_pn0) hisR ?_
  intro p e s m args below meth c s₁ Bd hml0 hP hK
  obtain ⟨rfl, hZ, hh⟩ := hP
  have hx := Bd.exec
  have hby := Bd.bytes
  have hml : c.maxLocals = 3 := hml0
  have hlk : meth.locks = false := BodyLoose.notSynchronized Bd
  have hown : s.vm.findClass "com/example/treebound/treebound/SortedSetsDisjointPinLaw" = some m.cls := findClass_of_methodNamed Bd.named
  have hnm := (name_of_methodNamed Bd.named Bd.method).1
  have X0 : Stand p l e ({ frames := 0, cells := 0, slots := 0, locals := 0 } : Room) s m #[(.ref a), (.int p1)] below meth c s₁ [] 0 0 := Stand.of_body Bd
  have e0 : s₁.heap = h0 := by rw [← hh, Bd.state]; rfl
  have N0 := Fr.nil n0
  show own_Go p e below s (Q_rm4 Z a p1 vs h0 n0) 0 0 (s₁.setTop (entryFrame m #[(.ref a), (.int p1)] 3))
  refine own_go (B := s₁.setTop (mkF m 0 #[.val (.ref a), .val (.int p1), .unset] [])) (fun tgt cont => (XT.entry rfl).trans cont) ?_
  refine own_go (B := s₁.setTop (mkF m 4 #[.val (.ref a), .val (.int p1), .val (.int (0 : Int32))] [(.int (Int32.ofNat vs.length))])) (fun tgt cont => ?_) ?_
  · refine XT.iconstV X0.here hx rfl (0 : Int32) (hb hby d4_0) rfl ?_
    refine XS.istoreN X0.here hx rfl (hb hby d4_1) rfl (l' := #[.val (.ref a), .val (.int p1), .val (.int (0 : Int32))]) rfl ?_
    refine XS.aloadN X0.here hx rfl (hb hby d4_2) rfl rfl ?_
    refine own_lenIA X0 hx hZ e0 A_a (g := (mkF m 3 #[.val (.ref a), .val (.int p1), .val (.int (0 : Int32))] [(.ref a)])) rfl rfl (hb hby d4_3) ?_
    exact cont
  have K1 : ∀ (v2 : Int32) (hv2 : v2 = (if 0 < (Int32.ofNat vs.length) then (if (vs.getD (0 : Int32).toNatClampNeg 0) = p1 then (1 : Int32) else (0 : Int32)) else (0 : Int32))), own_Go p e below s (Q_rm4 Z a p1 vs h0 n0) 0 0 (s₁.setTop (mkF m 16 #[.val (.ref a), .val (.int p1), .val (.int v2)] [])) := by
    intro v2 hv2
    refine own_go (B := s₁.setTop (mkF m 19 #[.val (.ref a), .val (.int p1), .val (.int v2)] [(.int (1 : Int32)), (.int (Int32.ofNat vs.length))])) (fun tgt cont => ?_) ?_
    · refine XS.aloadN X0.here hx rfl (hb hby d4_16) rfl rfl ?_
      refine own_lenIA X0 hx hZ e0 A_a (g := (mkF m 17 #[.val (.ref a), .val (.int p1), .val (.int v2)] [(.ref a)])) rfl rfl (hb hby d4_17) ?_
      refine XT.iconstV X0.here hx rfl (1 : Int32) (hb hby d4_18) rfl ?_
      exact cont
    have K3 : ∀ (v4 : Int32) (hv4 : v4 = (if (1 : Int32) < (Int32.ofNat vs.length) then (if (vs.getD (1 : Int32).toNatClampNeg 0) = p1 then (1 : Int32) else v2) else v2)), own_Go p e below s (Q_rm4 Z a p1 vs h0 n0) 0 0 (s₁.setTop (mkF m 31 #[.val (.ref a), .val (.int p1), .val (.int v4)] [])) := by
      intro v4 hv4
      refine own_go (B := s₁.setTop (mkF m 34 #[.val (.ref a), .val (.int p1), .val (.int v4)] [(.int (2 : Int32)), (.int (Int32.ofNat vs.length))])) (fun tgt cont => ?_) ?_
      · refine XS.aloadN X0.here hx rfl (hb hby d4_31) rfl rfl ?_
        refine own_lenIA X0 hx hZ e0 A_a (g := (mkF m 32 #[.val (.ref a), .val (.int p1), .val (.int v4)] [(.ref a)])) rfl rfl (hb hby d4_32) ?_
        refine XT.iconstV X0.here hx rfl (2 : Int32) (hb hby d4_33) rfl ?_
        exact cont
      have K5 : ∀ (v6 : Int32) (hv6 : v6 = (if (2 : Int32) < (Int32.ofNat vs.length) then (if (vs.getD (2 : Int32).toNatClampNeg 0) = p1 then (1 : Int32) else v4) else v4)), own_Go p e below s (Q_rm4 Z a p1 vs h0 n0) 0 0 (s₁.setTop (mkF m 46 #[.val (.ref a), .val (.int p1), .val (.int v6)] [])) := by
        intro v6 hv6
        refine own_go (B := s₁.setTop (mkF m 47 #[.val (.ref a), .val (.int p1), .val (.int v6)] [(.int v6)])) (fun tgt cont => ?_) ?_
        · refine XS.iloadN X0.here hx rfl (hb hby d4_46) rfl ?_
          exact cont
        refine own_end X0 (v := some (.int (nar .boolean v6))) (fun h => by rw [Bd.returns] at h; cases h) hlk ?_ (by decide) (by decide) (fun fs hl => retN X0 hx (t := .boolean) Bd.returns (by simp) (hb hby d4_47) hl)
        subst hv2 hv4 hv6
        exact ⟨(by unfold own_inl_r; exact rfl), N0, e0⟩
      by_cases hc7 : (2 : Int32) < (Int32.ofNat vs.length)
      ·
        refine own_go (B := s₁.setTop (mkF m 41 #[.val (.ref a), .val (.int p1), .val (.int v4)] [(.int p1), (.int (vs.getD (2 : Int32).toNatClampNeg 0))])) (fun tgt cont => ?_) ?_
        · refine XS.icmpNo X0.here hx rfl (hb hby d4_34) rfl (XT.ii_le_f hc7) ?_
          refine XS.aloadN X0.here hx rfl (hb hby d4_37) rfl rfl ?_
          refine XT.iconstV X0.here hx rfl (2 : Int32) (hb hby d4_38) rfl ?_
          refine own_ldIA X0 hx hZ e0 A_a (j := (2 : Int32)) (own_inb (by decide) hc7 A_a.small) (g := (mkF m 39 #[.val (.ref a), .val (.int p1), .val (.int v4)] [(.int (2 : Int32)), (.ref a)])) rfl rfl (hb hby d4_39) ?_
          refine XS.iloadN X0.here hx rfl (hb hby d4_40) rfl ?_
          exact cont
        by_cases hc8 : (vs.getD (2 : Int32).toNatClampNeg 0) = p1
        ·
          refine own_go (B := s₁.setTop (mkF m 46 #[.val (.ref a), .val (.int p1), .val (.int (1 : Int32))] [])) (fun tgt cont => ?_) ?_
          · refine XS.icmpNo X0.here hx rfl (hb hby d4_41) rfl (XT.ii_ne_f hc8) ?_
            refine XT.iconstV X0.here hx rfl (1 : Int32) (hb hby d4_44) rfl ?_
            refine XS.istoreN X0.here hx rfl (hb hby d4_45) rfl (l' := #[.val (.ref a), .val (.int p1), .val (.int (1 : Int32))]) rfl ?_
            exact cont
          exact K5 (1 : Int32) (by simp only [if_pos hc7, if_pos hc8])
        ·
          refine own_go (B := s₁.setTop (mkF m 46 #[.val (.ref a), .val (.int p1), .val (.int v4)] [])) (fun tgt cont => ?_) ?_
          · refine XS.icmpYes X0.here hx rfl (pc0 := 41) (pc' := 46) rfl (hb hby d4_41) rfl (XT.ii_ne_t hc8) (by decide) (by decide) ?_
            exact cont
          exact K5 v4 (by simp only [if_pos hc7, if_neg hc8])
      ·
        refine own_go (B := s₁.setTop (mkF m 46 #[.val (.ref a), .val (.int p1), .val (.int v4)] [])) (fun tgt cont => ?_) ?_
        · refine XS.icmpYes X0.here hx rfl (pc0 := 34) (pc' := 46) rfl (hb hby d4_34) rfl (XT.ii_le_t hc7) (by decide) (by decide) ?_
          exact cont
        exact K5 v4 (by simp only [if_neg hc7])
    by_cases hc9 : (1 : Int32) < (Int32.ofNat vs.length)
    ·
      refine own_go (B := s₁.setTop (mkF m 26 #[.val (.ref a), .val (.int p1), .val (.int v2)] [(.int p1), (.int (vs.getD (1 : Int32).toNatClampNeg 0))])) (fun tgt cont => ?_) ?_
      · refine XS.icmpNo X0.here hx rfl (hb hby d4_19) rfl (XT.ii_le_f hc9) ?_
        refine XS.aloadN X0.here hx rfl (hb hby d4_22) rfl rfl ?_
        refine XT.iconstV X0.here hx rfl (1 : Int32) (hb hby d4_23) rfl ?_
        refine own_ldIA X0 hx hZ e0 A_a (j := (1 : Int32)) (own_inb (by decide) hc9 A_a.small) (g := (mkF m 24 #[.val (.ref a), .val (.int p1), .val (.int v2)] [(.int (1 : Int32)), (.ref a)])) rfl rfl (hb hby d4_24) ?_
        refine XS.iloadN X0.here hx rfl (hb hby d4_25) rfl ?_
        exact cont
      by_cases hc10 : (vs.getD (1 : Int32).toNatClampNeg 0) = p1
      ·
        refine own_go (B := s₁.setTop (mkF m 31 #[.val (.ref a), .val (.int p1), .val (.int (1 : Int32))] [])) (fun tgt cont => ?_) ?_
        · refine XS.icmpNo X0.here hx rfl (hb hby d4_26) rfl (XT.ii_ne_f hc10) ?_
          refine XT.iconstV X0.here hx rfl (1 : Int32) (hb hby d4_29) rfl ?_
          refine XS.istoreN X0.here hx rfl (hb hby d4_30) rfl (l' := #[.val (.ref a), .val (.int p1), .val (.int (1 : Int32))]) rfl ?_
          exact cont
        exact K3 (1 : Int32) (by simp only [if_pos hc9, if_pos hc10])
      ·
        refine own_go (B := s₁.setTop (mkF m 31 #[.val (.ref a), .val (.int p1), .val (.int v2)] [])) (fun tgt cont => ?_) ?_
        · refine XS.icmpYes X0.here hx rfl (pc0 := 26) (pc' := 31) rfl (hb hby d4_26) rfl (XT.ii_ne_t hc10) (by decide) (by decide) ?_
          exact cont
        exact K3 v2 (by simp only [if_pos hc9, if_neg hc10])
    ·
      refine own_go (B := s₁.setTop (mkF m 31 #[.val (.ref a), .val (.int p1), .val (.int v2)] [])) (fun tgt cont => ?_) ?_
      · refine XS.icmpYes X0.here hx rfl (pc0 := 19) (pc' := 31) rfl (hb hby d4_19) rfl (XT.ii_le_t hc9) (by decide) (by decide) ?_
        exact cont
      exact K3 v2 (by simp only [if_neg hc9])
  by_cases hc11 : 0 < (Int32.ofNat vs.length)
  ·
    refine own_go (B := s₁.setTop (mkF m 11 #[.val (.ref a), .val (.int p1), .val (.int (0 : Int32))] [(.int p1), (.int (vs.getD (0 : Int32).toNatClampNeg 0))])) (fun tgt cont => ?_) ?_
    · refine XS.ifNo X0.here hx rfl (hb hby d4_4) rfl (XT.i0_le_f hc11) ?_
      refine XS.aloadN X0.here hx rfl (hb hby d4_7) rfl rfl ?_
      refine XT.iconstV X0.here hx rfl (0 : Int32) (hb hby d4_8) rfl ?_
      refine own_ldIA X0 hx hZ e0 A_a (j := (0 : Int32)) (own_inb (by decide) hc11 A_a.small) (g := (mkF m 9 #[.val (.ref a), .val (.int p1), .val (.int (0 : Int32))] [(.int (0 : Int32)), (.ref a)])) rfl rfl (hb hby d4_9) ?_
      refine XS.iloadN X0.here hx rfl (hb hby d4_10) rfl ?_
      exact cont
    by_cases hc12 : (vs.getD (0 : Int32).toNatClampNeg 0) = p1
    ·
      refine own_go (B := s₁.setTop (mkF m 16 #[.val (.ref a), .val (.int p1), .val (.int (1 : Int32))] [])) (fun tgt cont => ?_) ?_
      · refine XS.icmpNo X0.here hx rfl (hb hby d4_11) rfl (XT.ii_ne_f hc12) ?_
        refine XT.iconstV X0.here hx rfl (1 : Int32) (hb hby d4_14) rfl ?_
        refine XS.istoreN X0.here hx rfl (hb hby d4_15) rfl (l' := #[.val (.ref a), .val (.int p1), .val (.int (1 : Int32))]) rfl ?_
        exact cont
      exact K1 (1 : Int32) (by simp only [if_pos hc11, if_pos hc12])
    ·
      refine own_go (B := s₁.setTop (mkF m 16 #[.val (.ref a), .val (.int p1), .val (.int (0 : Int32))] [])) (fun tgt cont => ?_) ?_
      · refine XS.icmpYes X0.here hx rfl (pc0 := 11) (pc' := 16) rfl (hb hby d4_11) rfl (XT.ii_ne_t hc12) (by decide) (by decide) ?_
        exact cont
      exact K1 (0 : Int32) (by simp only [if_pos hc11, if_neg hc12])
  ·
    refine own_go (B := s₁.setTop (mkF m 16 #[.val (.ref a), .val (.int p1), .val (.int (0 : Int32))] [])) (fun tgt cont => ?_) ?_
    · refine XS.ifYes X0.here hx rfl (pc0 := 4) (pc' := 16) rfl (hb hby d4_4) rfl (XT.i0_le_t hc11) (by decide) (by decide) ?_
      exact cont
    exact K1 (0 : Int32) (by simp only [if_neg hc11])
def own_dj : Nat → List Int32 → List Int32 → Int32
  | 0, _, _ => 1
  | _ + 1, [], _ => 1
  | _ + 1, _ :: _, [] => 1
  | f + 1, a :: as, b :: bs => if a = b then 0 else if a < b then own_dj f as (b :: bs) else own_dj f (a :: as) bs
theorem own_dj_nil1 (f : Nat) (bs : List Int32) : own_dj f [] bs = 1 := by cases f <;> rfl
theorem own_dj_nil2 (f : Nat) (as : List Int32) : own_dj f as [] = 1 := by
  cases f with
  | zero => rfl
  | succ f => cases as <;> rfl
def Q_rm3 (Z : State) (a : Addr) (b : Addr) (vs : List Int32) (us : List Int32) (h0 : Heap) (n0 : Nat) (v : Option Value) (h : Heap) (L : List Loc) : Prop := v = some (.int (own_dj (vs.length + us.length + 1) vs us)) ∧ Fr n0 L ∧ h = h0
theorem own_pn1 : plainName "com/example/treebound/treebound/SortedSets" = true := by first | (simp [plainName, overriddenIn]; done) | decide +kernel
theorem d3_0 : decode prog_44_method_3_code 0 = .ok (.iconst 0, 1) := by decide +kernel
theorem d3_1 : decode prog_44_method_3_code 1 = .ok (.istore_n 2, 1) := by decide +kernel
theorem d3_2 : decode prog_44_method_3_code 2 = .ok (.iconst 0, 1) := by decide +kernel
theorem d3_3 : decode prog_44_method_3_code 3 = .ok (.istore_n 3, 1) := by decide +kernel
theorem d3_4 : decode prog_44_method_3_code 4 = .ok (.iload_n 2, 1) := by decide +kernel
theorem d3_5 : decode prog_44_method_3_code 5 = .ok (.aload_n 0, 1) := by decide +kernel
theorem d3_6 : decode prog_44_method_3_code 6 = .ok (.arraylength, 1) := by decide +kernel
theorem d3_7 : decode prog_44_method_3_code 7 = .ok (.if_icmp .ge 41, 3) := by decide +kernel
theorem d3_10 : decode prog_44_method_3_code 10 = .ok (.iload_n 3, 1) := by decide +kernel
theorem d3_11 : decode prog_44_method_3_code 11 = .ok (.aload_n 1, 1) := by decide +kernel
theorem d3_12 : decode prog_44_method_3_code 12 = .ok (.arraylength, 1) := by decide +kernel
theorem d3_13 : decode prog_44_method_3_code 13 = .ok (.if_icmp .ge 35, 3) := by decide +kernel
theorem d3_16 : decode prog_44_method_3_code 16 = .ok (.aload_n 0, 1) := by decide +kernel
theorem d3_17 : decode prog_44_method_3_code 17 = .ok (.iload_n 2, 1) := by decide +kernel
theorem d3_18 : decode prog_44_method_3_code 18 = .ok (.iaload, 1) := by decide +kernel
theorem d3_19 : decode prog_44_method_3_code 19 = .ok (.aload_n 1, 1) := by decide +kernel
theorem d3_20 : decode prog_44_method_3_code 20 = .ok (.iload_n 3, 1) := by decide +kernel
theorem d3_21 : decode prog_44_method_3_code 21 = .ok (.iaload, 1) := by decide +kernel
theorem d3_22 : decode prog_44_method_3_code 22 = .ok (.if_icmp .ne 5, 3) := by decide +kernel
theorem d3_25 : decode prog_44_method_3_code 25 = .ok (.iconst 0, 1) := by decide +kernel
theorem d3_26 : decode prog_44_method_3_code 26 = .ok (.ireturn, 1) := by decide +kernel
theorem d3_27 : decode prog_44_method_3_code 27 = .ok (.aload_n 0, 1) := by decide +kernel
theorem d3_28 : decode prog_44_method_3_code 28 = .ok (.iload_n 2, 1) := by decide +kernel
theorem d3_29 : decode prog_44_method_3_code 29 = .ok (.iaload, 1) := by decide +kernel
theorem d3_30 : decode prog_44_method_3_code 30 = .ok (.aload_n 1, 1) := by decide +kernel
theorem d3_31 : decode prog_44_method_3_code 31 = .ok (.iload_n 3, 1) := by decide +kernel
theorem d3_32 : decode prog_44_method_3_code 32 = .ok (.iaload, 1) := by decide +kernel
theorem d3_33 : decode prog_44_method_3_code 33 = .ok (.if_icmp .ge 9, 3) := by decide +kernel
theorem d3_36 : decode prog_44_method_3_code 36 = .ok (.iinc 2 1, 3) := by decide +kernel
theorem d3_39 : decode prog_44_method_3_code 39 = .ok (.goto (-35), 3) := by decide +kernel
theorem d3_42 : decode prog_44_method_3_code 42 = .ok (.iinc 3 1, 3) := by decide +kernel
theorem d3_45 : decode prog_44_method_3_code 45 = .ok (.goto (-41), 3) := by decide +kernel
theorem d3_48 : decode prog_44_method_3_code 48 = .ok (.iconst 1, 1) := by decide +kernel
theorem d3_49 : decode prog_44_method_3_code 49 = .ok (.ireturn, 1) := by decide +kernel
set_option maxRecDepth 65536 in
set_option maxHeartbeats 40000000 in
theorem rm3 (l : Launch) (Z : State) (a0 : Array Value) (hw : ∀ d ∈ tables_1, d.before a0 Z = true) (ws : List Jvm.Cond) (a : Addr) (b : Addr) (vs : List Int32) (us : List Int32) (h0 : Heap) (n0 : Nat) (Z0 : n0 ≤ h0.size) (A_a : own_IA Z h0 a vs) (A_b : own_IA Z h0 b us)  :
    MetFree l (⟨"com/example/treebound/treebound/SortedSets", "disjoint", "([I[I)Z"⟩ : MethodName) (head1 (Jvm.Cond.code (⟨"com/example/treebound/treebound/SortedSets", "disjoint", "([I[I)Z"⟩ : MethodName) prog_44_method_3_code 4 (some .boolean) :: ws) ({ frames := 0, cells := 0, slots := 0, locals := 0 } : Room)) (fun aa U => aa = #[(.ref a), (.ref b)] ∧ Z.Warmed39 U.vm ∧ U.heap = h0) (fun _ _ _ _ _ => True) (fun _ U o U' => ∃ v L, o = .returned v ∧ Q_rm3 Z a b vs us h0 n0 v U'.heap L ∧ FrameEnd U o U' L ({ frames := 0, cells := 0, slots := 0, locals := 0 } : Room).cells ({ frames := 0, cells := 0, slots := 0, locals := 0 } : Room).slots) := by
  refine MetFree.of_bodySF (plainFor_of_name own_pn1) hisR ?_
  intro p e s m args below meth c s₁ Bd hml0 hP hK
  obtain ⟨rfl, hZ, hh⟩ := hP
  have hx := Bd.exec
  have hby := Bd.bytes
  have hml : c.maxLocals = 4 := hml0
  have hlk : meth.locks = false := BodyLoose.notSynchronized Bd
  have hown : s.vm.findClass "com/example/treebound/treebound/SortedSets" = some m.cls := findClass_of_methodNamed Bd.named
  have hnm := (name_of_methodNamed Bd.named Bd.method).1
  have X0 : Stand p l e ({ frames := 0, cells := 0, slots := 0, locals := 0 } : Room) s m #[(.ref a), (.ref b)] below meth c s₁ [] 0 0 := Stand.of_body Bd
  have e0 : s₁.heap = h0 := by rw [← hh, Bd.state]; rfl
  have N0 := Fr.nil n0
  show own_Go p e below s (Q_rm3 Z a b vs us h0 n0) 0 0 (s₁.setTop (entryFrame m #[(.ref a), (.ref b)] 4))
  refine own_go (B := s₁.setTop (mkF m 0 #[.val (.ref a), .val (.ref b), .unset, .unset] [])) (fun tgt cont => (XT.entry rfl).trans cont) ?_
  refine own_go (B := s₁.setTop (mkF m 4 #[.val (.ref a), .val (.ref b), .val (.int (0 : Int32)), .val (.int (0 : Int32))] [])) (fun tgt cont => ?_) ?_
  · refine XT.iconstV X0.here hx rfl (0 : Int32) (hb hby d3_0) rfl ?_
    refine XS.istoreN X0.here hx rfl (hb hby d3_1) rfl (l' := #[.val (.ref a), .val (.ref b), .val (.int (0 : Int32)), .unset]) rfl ?_
    refine XT.iconstV X0.here hx rfl (0 : Int32) (hb hby d3_2) rfl ?_
    refine XS.istoreN X0.here hx rfl (hb hby d3_3) rfl (l' := #[.val (.ref a), .val (.ref b), .val (.int (0 : Int32)), .val (.int (0 : Int32))]) rfl ?_
    exact cont
  have LP : ∀ (f i j : Nat) (T : State) (L : List Loc) (X : Stand p l e ({ frames := 0, cells := 0, slots := 0, locals := 0 } : Room) s m #[(.ref a), (.ref b)] below meth c T L 0 0) (eT : T.heap = h0) (N : Fr n0 L) (hm : (vs.length - i) + (us.length - j) < f) (hi : i ≤ vs.length) (hj : j ≤ us.length) (hD : own_dj (vs.length + us.length + 1) vs us = own_dj f (vs.drop i) (us.drop j)), own_Go p e below s (Q_rm3 Z a b vs us h0 n0) 0 0 (T.setTop (mkF m 4 #[.val (.ref a), .val (.ref b), .val (.int (Int32.ofNat i)), .val (.int (Int32.ofNat j))] [])) := by
    intro f
    induction f with
    | zero => intro i j T L X eT N hm; omega
    | succ f ih =>
      intro i j T L X eT N hm hi hj hD
      refine own_go (B := T.setTop (mkF m 7 #[.val (.ref a), .val (.ref b), .val (.int (Int32.ofNat i)), .val (.int (Int32.ofNat j))] [(.int (Int32.ofNat vs.length)), (.int (Int32.ofNat i))])) (fun tgt cont => ?_) ?_
      · refine XS.iloadN X.here hx rfl (hb hby d3_4) rfl ?_
        refine XS.aloadN X.here hx rfl (hb hby d3_5) rfl rfl ?_
        refine own_lenIA X hx hZ eT A_a (g := (mkF m 6 #[.val (.ref a), .val (.ref b), .val (.int (Int32.ofNat i)), .val (.int (Int32.ofNat j))] [(.ref a), (.int (Int32.ofNat i))])) rfl rfl (hb hby d3_6) ?_
        exact cont
      by_cases hc1 : (Int32.ofNat i) < (Int32.ofNat vs.length)
      ·
        refine own_go (B := T.setTop (mkF m 13 #[.val (.ref a), .val (.ref b), .val (.int (Int32.ofNat i)), .val (.int (Int32.ofNat j))] [(.int (Int32.ofNat us.length)), (.int (Int32.ofNat j))])) (fun tgt cont => ?_) ?_
        · refine XS.icmpNo X.here hx rfl (hb hby d3_7) rfl (XT.ii_ge_f hc1) ?_
          refine XS.iloadN X.here hx rfl (hb hby d3_10) rfl ?_
          refine XS.aloadN X.here hx rfl (hb hby d3_11) rfl rfl ?_
          refine own_lenIA X hx hZ eT A_b (g := (mkF m 12 #[.val (.ref a), .val (.ref b), .val (.int (Int32.ofNat i)), .val (.int (Int32.ofNat j))] [(.ref b), (.int (Int32.ofNat j))])) rfl rfl (hb hby d3_12) ?_
          exact cont
        by_cases hc2 : (Int32.ofNat j) < (Int32.ofNat us.length)
        ·
          refine own_go (B := T.setTop (mkF m 22 #[.val (.ref a), .val (.ref b), .val (.int (Int32.ofNat i)), .val (.int (Int32.ofNat j))] [(.int (us.getD j 0)), (.int (vs.getD i 0))])) (fun tgt cont => ?_) ?_
          · refine XS.icmpNo X.here hx rfl (hb hby d3_13) rfl (XT.ii_ge_f hc2) ?_
            refine XS.aloadN X.here hx rfl (hb hby d3_16) rfl rfl ?_
            refine XS.iloadN X.here hx rfl (hb hby d3_17) rfl ?_
            refine own_ldIAn X hx hZ eT A_a (i := i) (own_ofNat_lt hc1 A_a.small hi) (g := (mkF m 18 #[.val (.ref a), .val (.ref b), .val (.int (Int32.ofNat i)), .val (.int (Int32.ofNat j))] [(.int (Int32.ofNat i)), (.ref a)])) rfl rfl (hb hby d3_18) ?_
            refine XS.aloadN X.here hx rfl (hb hby d3_19) rfl rfl ?_
            refine XS.iloadN X.here hx rfl (hb hby d3_20) rfl ?_
            refine own_ldIAn X hx hZ eT A_b (i := j) (own_ofNat_lt hc2 A_b.small hj) (g := (mkF m 21 #[.val (.ref a), .val (.ref b), .val (.int (Int32.ofNat i)), .val (.int (Int32.ofNat j))] [(.int (Int32.ofNat j)), (.ref b), (.int (vs.getD i 0))])) rfl rfl (hb hby d3_21) ?_
            exact cont
          by_cases hc3 : (vs.getD i 0) = (us.getD j 0)
          ·
            refine own_go (B := T.setTop (mkF m 26 #[.val (.ref a), .val (.ref b), .val (.int (Int32.ofNat i)), .val (.int (Int32.ofNat j))] [(.int (0 : Int32))])) (fun tgt cont => ?_) ?_
            · refine XS.icmpNo X.here hx rfl (hb hby d3_22) rfl (XT.ii_ne_f hc3) ?_
              refine XT.iconstV X.here hx rfl (0 : Int32) (hb hby d3_25) rfl ?_
              exact cont
            refine own_end X (v := some (.int (0 : Int32))) (fun h => by rw [Bd.returns] at h; cases h) hlk ?_ (by decide) (by decide) (fun fs hl => retN X hx (t := .boolean) Bd.returns (by simp) (hb hby d3_26) hl)
            refine ⟨?_, N, eT⟩
            show (some (.int (0 : Int32)) : Option Value) = some (.int (own_dj (vs.length + us.length + 1) vs us))
            rw [hD]
            have q1 := own_ofNat_lt hc1 A_a.small hi
            have q2 := own_ofNat_lt hc2 A_b.small hj
            rw [own_drop vs q1, own_drop us q2, own_dj, if_pos hc3]
          ·
            refine own_go (B := T.setTop (mkF m 33 #[.val (.ref a), .val (.ref b), .val (.int (Int32.ofNat i)), .val (.int (Int32.ofNat j))] [(.int (us.getD j 0)), (.int (vs.getD i 0))])) (fun tgt cont => ?_) ?_
            · refine XS.icmpYes X.here hx rfl (pc0 := 22) (pc' := 27) rfl (hb hby d3_22) rfl (XT.ii_ne_t hc3) (by decide) (by decide) ?_
              refine XS.aloadN X.here hx rfl (hb hby d3_27) rfl rfl ?_
              refine XS.iloadN X.here hx rfl (hb hby d3_28) rfl ?_
              refine own_ldIAn X hx hZ eT A_a (i := i) (own_ofNat_lt hc1 A_a.small hi) (g := (mkF m 29 #[.val (.ref a), .val (.ref b), .val (.int (Int32.ofNat i)), .val (.int (Int32.ofNat j))] [(.int (Int32.ofNat i)), (.ref a)])) rfl rfl (hb hby d3_29) ?_
              refine XS.aloadN X.here hx rfl (hb hby d3_30) rfl rfl ?_
              refine XS.iloadN X.here hx rfl (hb hby d3_31) rfl ?_
              refine own_ldIAn X hx hZ eT A_b (i := j) (own_ofNat_lt hc2 A_b.small hj) (g := (mkF m 32 #[.val (.ref a), .val (.ref b), .val (.int (Int32.ofNat i)), .val (.int (Int32.ofNat j))] [(.int (Int32.ofNat j)), (.ref b), (.int (vs.getD i 0))])) rfl rfl (hb hby d3_32) ?_
              exact cont
            by_cases hc4 : (vs.getD i 0) < (us.getD j 0)
            ·
              refine own_go (B := T.setTop (mkF m 4 #[.val (.ref a), .val (.ref b), .val (.int ((Int32.ofNat i) + (1 : Int32))), .val (.int (Int32.ofNat j))] [])) (fun tgt cont => ?_) ?_
              · refine XS.icmpNo X.here hx rfl (hb hby d3_33) rfl (XT.ii_ge_f hc4) ?_
                refine XT.iincV X.here hx rfl (1 : Int32) (hb hby d3_36) rfl rfl (l' := #[.val (.ref a), .val (.ref b), .val (.int ((Int32.ofNat i) + (1 : Int32))), .val (.int (Int32.ofNat j))]) rfl ?_
                refine XS.goto X.here hx rfl (pc0 := 39) (pc' := 4) rfl (hb hby d3_39) (by decide) (by decide) ?_
                exact cont
              rw [own_one]
              have q1 := own_ofNat_lt hc1 A_a.small hi
              have q2 := own_ofNat_lt hc2 A_b.small hj
              rw [own_drop vs q1, own_drop us q2, own_dj, if_neg hc3, if_pos hc4] at hD
              rw [← own_drop us q2] at hD
              exact ih (i + 1) j _ _ X eT N (by omega) (by omega) hj hD
            ·
              refine own_go (B := T.setTop (mkF m 4 #[.val (.ref a), .val (.ref b), .val (.int (Int32.ofNat i)), .val (.int ((Int32.ofNat j) + (1 : Int32)))] [])) (fun tgt cont => ?_) ?_
              · refine XS.icmpYes X.here hx rfl (pc0 := 33) (pc' := 42) rfl (hb hby d3_33) rfl (XT.ii_ge_t hc4) (by decide) (by decide) ?_
                refine XT.iincV X.here hx rfl (1 : Int32) (hb hby d3_42) rfl rfl (l' := #[.val (.ref a), .val (.ref b), .val (.int (Int32.ofNat i)), .val (.int ((Int32.ofNat j) + (1 : Int32)))]) rfl ?_
                refine XS.goto X.here hx rfl (pc0 := 45) (pc' := 4) rfl (hb hby d3_45) (by decide) (by decide) ?_
                exact cont
              rw [own_one]
              have q1 := own_ofNat_lt hc1 A_a.small hi
              have q2 := own_ofNat_lt hc2 A_b.small hj
              rw [own_drop vs q1, own_drop us q2, own_dj, if_neg hc3, if_neg hc4] at hD
              rw [← own_drop vs q1] at hD
              exact ih i (j + 1) _ _ X eT N (by omega) hi (by omega) hD
        ·
          refine own_go (B := T.setTop (mkF m 49 #[.val (.ref a), .val (.ref b), .val (.int (Int32.ofNat i)), .val (.int (Int32.ofNat j))] [(.int (1 : Int32))])) (fun tgt cont => ?_) ?_
          · refine XS.icmpYes X.here hx rfl (pc0 := 13) (pc' := 48) rfl (hb hby d3_13) rfl (XT.ii_ge_t hc2) (by decide) (by decide) ?_
            refine XT.iconstV X.here hx rfl (1 : Int32) (hb hby d3_48) rfl ?_
            exact cont
          refine own_end X (v := some (.int (1 : Int32))) (fun h => by rw [Bd.returns] at h; cases h) hlk ?_ (by decide) (by decide) (fun fs hl => retN X hx (t := .boolean) Bd.returns (by simp) (hb hby d3_49) hl)
          refine ⟨?_, N, eT⟩
          show (some (.int (1 : Int32)) : Option Value) = some (.int (own_dj (vs.length + us.length + 1) vs us))
          rw [hD]
          rw [List.drop_eq_nil_of_le (own_ofNat_nlt hc2 A_b.small hj), own_dj_nil2]
      ·
        refine own_go (B := T.setTop (mkF m 49 #[.val (.ref a), .val (.ref b), .val (.int (Int32.ofNat i)), .val (.int (Int32.ofNat j))] [(.int (1 : Int32))])) (fun tgt cont => ?_) ?_
        · refine XS.icmpYes X.here hx rfl (pc0 := 7) (pc' := 48) rfl (hb hby d3_7) rfl (XT.ii_ge_t hc1) (by decide) (by decide) ?_
          refine XT.iconstV X.here hx rfl (1 : Int32) (hb hby d3_48) rfl ?_
          exact cont
        refine own_end X (v := some (.int (1 : Int32))) (fun h => by rw [Bd.returns] at h; cases h) hlk ?_ (by decide) (by decide) (fun fs hl => retN X hx (t := .boolean) Bd.returns (by simp) (hb hby d3_49) hl)
        refine ⟨?_, N, eT⟩
        show (some (.int (1 : Int32)) : Option Value) = some (.int (own_dj (vs.length + us.length + 1) vs us))
        rw [hD]
        rw [List.drop_eq_nil_of_le (own_ofNat_nlt hc1 A_a.small hi), own_dj_nil1]
  exact LP _ 0 0 _ _ X0 e0 N0 (by omega) (Nat.zero_le _) (Nat.zero_le _) rfl
theorem own_and3 (x : Int32) : (x &&& 3) = 0 ∨ (x &&& 3) = 1 ∨ (x &&& 3) = 2 ∨ (x &&& 3) = 3 := by
  have h := c_mask x 3 2 (by decide) (by decide)
  have e0 : (0 : Int32).toInt = 0 := rfl
  have e1 : (1 : Int32).toInt = 1 := rfl
  have e2 : (2 : Int32).toInt = 2 := rfl
  have e3 : (3 : Int32).toInt = 3 := rfl
  simp only [← Int32.toInt_inj, e0, e1, e2, e3]
  generalize (x &&& 3).toInt = y at *
  omega
def own_asc (l : List Int32) : Prop := l.Pairwise (fun x y => x.toInt < y.toInt)
theorem own_dj_spec : ∀ (f : Nat) (as bs : List Int32), as.length + bs.length < f → own_asc as → own_asc bs →
    ((∃ x, x ∈ as ∧ x ∈ bs) ∧ own_dj f as bs = 0) ∨ ((¬ ∃ x, x ∈ as ∧ x ∈ bs) ∧ own_dj f as bs = 1) := by
  intro f
  induction f with
  | zero => intro as bs h; omega
  | succ f ih =>
    intro as bs h ha hb
    cases as with
    | nil => exact Or.inr ⟨(fun ⟨x, q, _⟩ => nomatch q), rfl⟩
    | cons a as =>
      cases bs with
      | nil => exact Or.inr ⟨(fun ⟨x, _, q⟩ => nomatch q), rfl⟩
      | cons b bs =>
        have ha' := List.pairwise_cons.mp ha
        have hb' := List.pairwise_cons.mp hb
        rw [own_dj]
        by_cases e : a = b
        · rw [if_pos e]
          exact Or.inl ⟨⟨a, List.mem_cons_self, e ▸ List.mem_cons_self⟩, rfl⟩
        · rw [if_neg e]
          have ne : a.toInt ≠ b.toInt := fun q => e (Int32.toInt_inj.mp q)
          by_cases l : a < b
          · rw [if_pos l]
            rw [Int32.lt_iff_toInt_lt] at l
            have no : a ∉ b :: bs := by
              intro q
              rcases List.mem_cons.mp q with q | q
              · exact e q
              · have := hb'.1 a q; omega
            have eq : (∃ x, x ∈ a :: as ∧ x ∈ b :: bs) ↔ ∃ x, x ∈ as ∧ x ∈ b :: bs := by
              constructor
              · rintro ⟨x, q1, q2⟩
                rcases List.mem_cons.mp q1 with q | q
                · subst q; exact absurd q2 no
                · exact ⟨x, q, q2⟩
              · rintro ⟨x, q1, q2⟩; exact ⟨x, List.mem_cons_of_mem _ q1, q2⟩
            rw [eq]
            exact ih as (b :: bs) (by simp only [List.length_cons] at h ⊢; omega) ha'.2 hb
          · rw [if_neg l]
            rw [Int32.lt_iff_toInt_lt] at l
            have no : b ∉ a :: as := by
              intro q
              rcases List.mem_cons.mp q with q | q
              · exact e q.symm
              · have := ha'.1 b q; omega
            have eq : (∃ x, x ∈ a :: as ∧ x ∈ b :: bs) ↔ ∃ x, x ∈ a :: as ∧ x ∈ bs := by
              constructor
              · rintro ⟨x, q1, q2⟩
                rcases List.mem_cons.mp q2 with q | q
                · subst q; exact absurd q1 no
                · exact ⟨x, q1, q⟩
              · rintro ⟨x, q1, q2⟩; exact ⟨x, q1, List.mem_cons_of_mem _ q2⟩
            rw [eq]
            exact ih (a :: as) bs (by simp only [List.length_cons] at h ⊢; omega) ha hb'.2
theorem own_l0 : (Int32.ofNat 0 : Int32) = 0 := rfl
theorem own_l1 : (Int32.ofNat (0 + 1) : Int32) = 1 := rfl
theorem own_l2 : (Int32.ofNat (0 + 1 + 1) : Int32) = 2 := rfl
theorem own_l3 : (Int32.ofNat (0 + 1 + 1 + 1) : Int32) = 3 := rfl
theorem own_small3 (l : List Int32) (h : l.length ≤ 3) : l = [] ∨ (∃ a, l = [a]) ∨ (∃ a b, l = [a, b]) ∨ ∃ a b c, l = [a, b, c] := by
  match l, h with
  | [], _ => exact Or.inl rfl
  | [a], _ => exact Or.inr (Or.inl ⟨a, rfl⟩)
  | [a, b], _ => exact Or.inr (Or.inr (Or.inl ⟨a, b, rfl⟩))
  | [a, b, c], _ => exact Or.inr (Or.inr (Or.inr ⟨a, b, c, rfl⟩))
  | a :: b :: c :: d :: r, h => simp only [List.length_cons] at h; omega
theorem own_b0 : nar .boolean (0 : Int32) = 0 := rfl
theorem own_b1 : nar .boolean (1 : Int32) = 1 := rfl
theorem own_lt00 : ¬ ((0 : Int32) < 0) := by decide
theorem own_lt01 : (0 : Int32) < 1 := by decide
theorem own_lt02 : (0 : Int32) < 2 := by decide
theorem own_lt03 : (0 : Int32) < 3 := by decide
theorem own_lt10 : ¬ (1 : Int32) < 0 := by decide
theorem own_lt11 : ¬ (1 : Int32) < 1 := by decide
theorem own_lt12 : (1 : Int32) < 2 := by decide
theorem own_lt13 : (1 : Int32) < 3 := by decide
theorem own_lt20 : ¬ (2 : Int32) < 0 := by decide
theorem own_lt21 : ¬ (2 : Int32) < 1 := by decide
theorem own_lt22 : ¬ (2 : Int32) < 2 := by decide
theorem own_lt23 : (2 : Int32) < 3 := by decide
theorem own_g0 : (0 : Int32).toNatClampNeg = 0 := rfl
theorem own_g1 : (1 : Int32).toNatClampNeg = 1 := rfl
theorem own_g2 : (2 : Int32).toNatClampNeg = 2 := rfl
theorem own_inl_spec (v : Int32) (l : List Int32) (h : l.length ≤ 3) : own_inl_r v l = 0 ↔ v ∉ l := by
  have e : v ∉ l ↔ ∀ x, x ∈ l → ¬ x = v := ⟨fun q x hx r => q (r ▸ hx), fun q r => q v r rfl⟩
  rw [e]
  unfold own_inl_r
  rcases own_small3 l h with rfl | ⟨a, rfl⟩ | ⟨a, b, rfl⟩ | ⟨a, b, c, rfl⟩
  · simp only [List.length_nil, own_l0, own_lt00, own_lt10, own_lt20, if_false, own_b0, List.not_mem_nil, false_imp_iff, implies_true]
  · simp only [List.length_cons, List.length_nil, own_l1, own_lt01, own_lt11, own_lt21, if_false, if_true, own_g0, List.getD_cons_zero, List.mem_cons, List.not_mem_nil, or_false, forall_eq]
    by_cases q : a = v <;> simp [q, own_b0, own_b1]
  · simp only [List.length_cons, List.length_nil, own_l2, own_lt02, own_lt12, own_lt22, if_false, if_true, own_g0, own_g1, List.getD_cons_zero, List.getD_cons_succ, List.mem_cons, List.not_mem_nil, or_false, forall_eq_or_imp, forall_eq]
    by_cases q : a = v <;> by_cases r : b = v <;> simp [q, r, own_b0, own_b1]
  · simp only [List.length_cons, List.length_nil, own_l3, own_lt03, own_lt13, own_lt23, if_false, if_true, own_g0, own_g1, own_g2, List.getD_cons_zero, List.getD_cons_succ, List.mem_cons, List.not_mem_nil, or_false, forall_eq_or_imp, forall_eq]
    by_cases q : a = v <;> by_cases r : b = v <;> by_cases s : c = v <;> simp [q, r, s, own_b0, own_b1]
theorem own_fin (A B : List Int32) (hA : own_asc A) (lA : A.length ≤ 3) (hB : own_asc B) (lB : B.length ≤ 3) : ((own_dj (A.length + B.length + 1) A B)) = ((if ((if (2 : Int32) < (Int32.ofNat A.length) then (if ((own_inl_r (A.getD (2 : Int32).toNatClampNeg 0) B)) = 0 then ((if (1 : Int32) < (Int32.ofNat A.length) then (if ((own_inl_r (A.getD (1 : Int32).toNatClampNeg 0) B)) = 0 then ((if 0 < (Int32.ofNat A.length) then (if ((own_inl_r (A.getD (0 : Int32).toNatClampNeg 0) B)) = 0 then (0 : Int32) else (1 : Int32)) else (0 : Int32))) else (1 : Int32)) else ((if 0 < (Int32.ofNat A.length) then (if ((own_inl_r (A.getD (0 : Int32).toNatClampNeg 0) B)) = 0 then (0 : Int32) else (1 : Int32)) else (0 : Int32))))) else (1 : Int32)) else ((if (1 : Int32) < (Int32.ofNat A.length) then (if ((own_inl_r (A.getD (1 : Int32).toNatClampNeg 0) B)) = 0 then ((if 0 < (Int32.ofNat A.length) then (if ((own_inl_r (A.getD (0 : Int32).toNatClampNeg 0) B)) = 0 then (0 : Int32) else (1 : Int32)) else (0 : Int32))) else (1 : Int32)) else ((if 0 < (Int32.ofNat A.length) then (if ((own_inl_r (A.getD (0 : Int32).toNatClampNeg 0) B)) = 0 then (0 : Int32) else (1 : Int32)) else (0 : Int32))))))) = 0 then (1 : Int32) else (0 : Int32))) := by
  have z : ¬ ((1 : Int32) = 0) := by decide
  have s := own_dj_spec (A.length + B.length + 1) A B (by omega) hA hB
  have e : (∃ x, x ∈ A ∧ x ∈ B) ↔ ¬ ∀ x, x ∈ A → x ∉ B := by
    constructor
    · rintro ⟨x, h1, h2⟩ q; exact q x h1 h2
    · intro q; exact Classical.byContradiction fun r => q fun x h1 h2 => r ⟨x, h1, h2⟩
  rw [e] at s
  simp only [own_inl_spec _ B lB]
  generalize own_dj (A.length + B.length + 1) A B = D at *
  rcases own_small3 A lA with rfl | ⟨a, rfl⟩ | ⟨a, b, rfl⟩ | ⟨a, b, c, rfl⟩
  · simp only [List.not_mem_nil, false_imp_iff, implies_true, not_true, false_and, not_false_eq_true, true_and, false_or] at s
    simp only [List.length_nil, own_l0, own_lt00, own_lt10, own_lt20, if_false, if_true, s]
  · simp only [List.mem_cons, List.not_mem_nil, or_false, forall_eq] at s
    simp only [List.length_cons, List.length_nil, own_l1, own_lt01, own_lt11, own_lt21, if_false, if_true, own_g0, List.getD_cons_zero]
    by_cases q : a ∈ B <;> simp_all
  · simp only [List.mem_cons, List.not_mem_nil, or_false, forall_eq_or_imp, forall_eq] at s
    simp only [List.length_cons, List.length_nil, own_l2, own_lt02, own_lt12, own_lt22, if_false, if_true, own_g0, own_g1, List.getD_cons_zero, List.getD_cons_succ]
    by_cases q : a ∈ B <;> by_cases r : b ∈ B <;> simp_all
  · simp only [List.mem_cons, List.not_mem_nil, or_false, forall_eq_or_imp, forall_eq] at s
    simp only [List.length_cons, List.length_nil, own_l3, own_lt03, own_lt13, own_lt23, if_false, if_true, own_g0, own_g1, own_g2, List.getD_cons_zero, List.getD_cons_succ]
    by_cases q : a ∈ B <;> by_cases r : b ∈ B <;> by_cases w : c ∈ B <;> simp_all
theorem own_m7 (x : Int32) : 0 ≤ (x &&& (7 : Int32)).toInt ∧ (x &&& (7 : Int32)).toInt ≤ 7 := by
  have h := c_mask x 7 3 (by decide) (by decide)
  generalize (x &&& 7).toInt = y at *
  omega
theorem own_add0 (e x : Int32) (h : e.toInt ≤ 2147483620) : e.toInt ≤ (e + (x &&& (7 : Int32))).toInt ∧ (e + (x &&& (7 : Int32))).toInt ≤ e.toInt + 7 := by
  have m := own_m7 x
  generalize (x &&& (7 : Int32)) = y at *
  have a := c_iadd e y
  have r := rng32 (e + y)
  have r2 := rng32 e
  generalize e + y = z at *
  omega
theorem own_up (e x : Int32) (h : e.toInt ≤ 2147483620) : e.toInt < ((e + (1 : Int32)) + (x &&& (7 : Int32))).toInt ∧ ((e + (1 : Int32)) + (x &&& (7 : Int32))).toInt ≤ e.toInt + 8 := by
  have a := c_iadd e 1
  have r := rng32 (e + 1)
  have r2 := rng32 e
  have e1 : (1 : Int32).toInt = 1 := rfl
  rw [e1] at a
  have m := own_m7 x
  generalize (x &&& (7 : Int32)) = y at *
  have b : (e + 1).toInt = e.toInt + 1 := by omega
  clear a
  generalize e + 1 = f at *
  have a := c_iadd f y
  have r := rng32 (f + y)
  generalize f + y = z at *
  omega
theorem own_bld_asc (base code len : Int32) (h : base.toInt ≤ 2147483600) : own_asc (own_bld base code len) ∧ (own_bld base code len).length ≤ 3 := by
  unfold own_bld
  have a0 := own_add0 base code (by omega)
  generalize (base + (code &&& (7 : Int32))) = e0 at *
  have a1 := own_up e0 ((code.toUInt32 >>> ((3 : Int32) &&& 31).toUInt32).toInt32) (by omega)
  generalize ((e0 + (1 : Int32)) + (((code.toUInt32 >>> ((3 : Int32) &&& 31).toUInt32).toInt32) &&& (7 : Int32))) = e1 at *
  have a2 := own_up e1 ((code.toUInt32 >>> ((6 : Int32) &&& 31).toUInt32).toInt32) (by omega)
  generalize ((e1 + (1 : Int32)) + (((code.toUInt32 >>> ((6 : Int32) &&& 31).toUInt32).toInt32) &&& (7 : Int32))) = e2 at *
  refine ⟨List.Pairwise.sublist (List.take_sublist _ _) ?_, ?_⟩
  · refine List.pairwise_cons.mpr ⟨?_, List.pairwise_cons.mpr ⟨?_, List.pairwise_cons.mpr ⟨?_, List.Pairwise.nil⟩⟩⟩
    · intro x hx
      rcases List.mem_cons.mp hx with rfl | hx
      · omega
      · cases List.mem_singleton.mp hx; omega
    · intro x hx
      cases List.mem_singleton.mp hx; omega
    · intro x hx; cases hx
  · rw [List.length_take]; simp only [List.length_cons, List.length_nil]; omega
theorem own_minT (x : Int32) : (own_min x 2147483583).toInt ≤ 2147483583 := by
  have e : (2147483583 : Int32).toInt = 2147483583 := rfl
  unfold own_min
  split
  · omega
  · rename_i h; rw [Int32.lt_iff_toInt_lt] at h; omega
theorem own_baseB (q : Prop) [Decidable q] (x y r : Int32) : (if q then (own_min x 2147483583) + (r &&& (15 : Int32)) else own_min y 2147483583).toInt ≤ 2147483600 := by
  split
  · have a := own_minT x
    have h := c_mask r 15 4 (by decide) (by decide)
    generalize (r &&& (15 : Int32)) = u at *
    generalize own_min x 2147483583 = v at *
    have a := c_iadd v u
    have r := rng32 (v + u)
    have r2 := rng32 v
    generalize v + u = z at *
    omega
  · have a := own_minT y; omega

def Q0 (n0 : Nat) (v : Option Value) (h : Heap) (L : List Loc) : Prop := v = some (.int (1 : Int32)) ∧ Fr n0 L
theorem own_pd0 : parseMethodDescriptor "(II)I" = some ⟨[.int, .int], some .int⟩ := by decide +kernel
theorem own_eq0 (p5 : Int32)  : ((p5 &&& (3 : Int32))) = 0 ∨ ((p5 &&& (3 : Int32))) = 1 ∨ ((p5 &&& (3 : Int32))) = 2 ∨ ((p5 &&& (3 : Int32))) = 3 := by
  exact own_and3 _
theorem own_pd1 : parseMethodDescriptor "(III)[I" = some ⟨[.int, .int, .int], some (.array .int)⟩ := by decide +kernel
theorem own_eq1 (p5 : Int32)  : ((((p5.toUInt32 >>> ((2 : Int32) &&& 31).toUInt32).toInt32) &&& (3 : Int32))) = 0 ∨ ((((p5.toUInt32 >>> ((2 : Int32) &&& 31).toUInt32).toInt32) &&& (3 : Int32))) = 1 ∨ ((((p5.toUInt32 >>> ((2 : Int32) &&& 31).toUInt32).toInt32) &&& (3 : Int32))) = 2 ∨ ((((p5.toUInt32 >>> ((2 : Int32) &&& 31).toUInt32).toInt32) &&& (3 : Int32))) = 3 := by
  exact own_and3 _
theorem own_pd2 : parseMethodDescriptor "([II)Z" = some ⟨[(.array .int), .int], some .boolean⟩ := by decide +kernel
theorem own_pd3 : parseMethodDescriptor "([I[I)Z" = some ⟨[(.array .int), (.array .int)], some .boolean⟩ := by decide +kernel
theorem own_eq2 (p1 : Int32) (p3 : Int32) (p5 : Int32)  : own_asc ((own_bld ((own_min p1 (2147483583 : Int32))) p3 ((p5 &&& (3 : Int32))))) ∧ ((own_bld ((own_min p1 (2147483583 : Int32))) p3 ((p5 &&& (3 : Int32))))).length ≤ 3 := by
  exact own_bld_asc _ _ _ (Int.le_trans (own_minT _) (by decide))
theorem own_eq3 (p5 : Int32) (p1 : Int32) (p4 : Int32) (p2 : Int32)  : own_asc ((own_bld ((if ((if (((p5.toUInt32 >>> ((4 : Int32) &&& 31).toUInt32).toInt32) &&& (1 : Int32)) = 0 then (0 : Int32) else (1 : Int32))) = 0 then (((own_min p1 (2147483583 : Int32))) + (((p4.toUInt32 >>> ((9 : Int32) &&& 31).toUInt32).toInt32) &&& (15 : Int32))) else ((own_min p2 (2147483583 : Int32))))) p4 ((((p5.toUInt32 >>> ((2 : Int32) &&& 31).toUInt32).toInt32) &&& (3 : Int32))))) ∧ ((own_bld ((if ((if (((p5.toUInt32 >>> ((4 : Int32) &&& 31).toUInt32).toInt32) &&& (1 : Int32)) = 0 then (0 : Int32) else (1 : Int32))) = 0 then (((own_min p1 (2147483583 : Int32))) + (((p4.toUInt32 >>> ((9 : Int32) &&& 31).toUInt32).toInt32) &&& (15 : Int32))) else ((own_min p2 (2147483583 : Int32))))) p4 ((((p5.toUInt32 >>> ((2 : Int32) &&& 31).toUInt32).toInt32) &&& (3 : Int32))))).length ≤ 3 := by
  exact own_bld_asc _ _ _ (own_baseB _ _ _ _)
theorem own_eq4 (w10 : List Int32) (w12 : List Int32) (hp0 : own_asc w10 ∧ w10.length ≤ 3) (hp1 : own_asc w12 ∧ w12.length ≤ 3) : ((own_dj (w10.length + w12.length + 1) w10 w12)) = ((if ((if (2 : Int32) < (Int32.ofNat w10.length) then (if ((own_inl_r (w10.getD (2 : Int32).toNatClampNeg 0) w12)) = 0 then ((if (1 : Int32) < (Int32.ofNat w10.length) then (if ((own_inl_r (w10.getD (1 : Int32).toNatClampNeg 0) w12)) = 0 then ((if 0 < (Int32.ofNat w10.length) then (if ((own_inl_r (w10.getD (0 : Int32).toNatClampNeg 0) w12)) = 0 then (0 : Int32) else (1 : Int32)) else (0 : Int32))) else (1 : Int32)) else ((if 0 < (Int32.ofNat w10.length) then (if ((own_inl_r (w10.getD (0 : Int32).toNatClampNeg 0) w12)) = 0 then (0 : Int32) else (1 : Int32)) else (0 : Int32))))) else (1 : Int32)) else ((if (1 : Int32) < (Int32.ofNat w10.length) then (if ((own_inl_r (w10.getD (1 : Int32).toNatClampNeg 0) w12)) = 0 then ((if 0 < (Int32.ofNat w10.length) then (if ((own_inl_r (w10.getD (0 : Int32).toNatClampNeg 0) w12)) = 0 then (0 : Int32) else (1 : Int32)) else (0 : Int32))) else (1 : Int32)) else ((if 0 < (Int32.ofNat w10.length) then (if ((own_inl_r (w10.getD (0 : Int32).toNatClampNeg 0) w12)) = 0 then (0 : Int32) else (1 : Int32)) else (0 : Int32))))))) = 0 then (1 : Int32) else (0 : Int32))) := by
  exact own_fin _ _ hp0.1 hp0.2 hp1.1 hp1.2
set_option maxRecDepth 65536 in
set_option maxHeartbeats 40000000 in
theorem rm0 (l : Launch) (Z : State) (a0 : Array Value) (hw : ∀ d ∈ tables_1, d.before a0 Z = true) (ws : List Jvm.Cond) (p1 : Int32) (p2 : Int32) (p3 : Int32) (p4 : Int32) (p5 : Int32) (h0 : Heap) (n0 : Nat) (Z0 : n0 ≤ h0.size)  :
    MetFree l x (head1 (Jvm.Cond.code x code maxLocals ret :: ws) room_1) (fun aa U => aa = #[(.int p1), (.int p2), (.int p3), (.int p4), (.int p5)] ∧ Z.Warmed39 U.vm ∧ U.heap = h0) (fun _ _ _ _ _ => True) (fun _ U o U' => ∃ v L, o = .returned v ∧ Q0 n0 v U'.heap L ∧ FrameEnd U o U' L room_1.cells room_1.slots) := by
  refine MetFree.of_bodySF (plainFor_of_name own_pn0) hisR ?_
  intro p e s m args below meth c s₁ Bd hml0 hP hK
  obtain ⟨rfl, hZ, hh⟩ := hP
  have hx := Bd.exec
  have hby := Bd.bytes
  have hml : c.maxLocals = 14 := hml0
  have hlk : meth.locks = false := BodyLoose.notSynchronized Bd
  have hown : s.vm.findClass "com/example/treebound/treebound/SortedSetsDisjointPinLaw" = some m.cls := findClass_of_methodNamed Bd.named
  have hnm := (name_of_methodNamed Bd.named Bd.method).1
  have X0 : Stand p l e room_1 s m #[(.int p1), (.int p2), (.int p3), (.int p4), (.int p5)] below meth c s₁ [] 0 0 := Stand.of_body Bd
  have e0 : s₁.heap = h0 := by rw [← hh, Bd.state]; rfl
  have N0 := Fr.nil n0
  show own_Go p e below s (Q0 n0) room_1.cells room_1.slots (s₁.setTop (entryFrame m #[(.int p1), (.int p2), (.int p3), (.int p4), (.int p5)] maxLocals))
  refine own_go (B := s₁.setTop (mkF m 0 #[.val (.int p1), .val (.int p2), .val (.int p3), .val (.int p4), .val (.int p5), .unset, .unset, .unset, .unset, .unset, .unset, .unset, .unset, .unset] [])) (fun tgt cont => (XT.entry rfl).trans cont) ?_
  refine own_go (B := s₁.setTop (mkF m 4 #[.val (.int p1), .val (.int p2), .val (.int p3), .val (.int p4), .val (.int p5), .unset, .unset, .unset, .unset, .unset, .unset, .unset, .unset, .unset] [(.int (p5 &&& (3 : Int32)))])) (fun tgt cont => ?_) ?_
  · refine XS.iload X0.here hx rfl (hb hby at_0) rfl ?_
    refine XT.iconstV X0.here hx rfl (3 : Int32) (hb hby at_2) rfl ?_
    refine XS.iand X0.here hx rfl (hb hby at_3) rfl ?_
    exact cont
  generalize hv1 : (p5 &&& (3 : Int32)) = v1
  refine own_go (B := s₁.setTop (mkF m 12 #[.val (.int p1), .val (.int p2), .val (.int p3), .val (.int p4), .val (.int p5), .val (.int v1), .unset, .unset, .unset, .unset, .unset, .unset, .unset, .unset] [(.int (((p5.toUInt32 >>> ((2 : Int32) &&& 31).toUInt32).toInt32) &&& (3 : Int32)))])) (fun tgt cont => ?_) ?_
  · refine XS.istore X0.here hx rfl (hb hby at_4) rfl (l' := #[.val (.int p1), .val (.int p2), .val (.int p3), .val (.int p4), .val (.int p5), .val (.int v1), .unset, .unset, .unset, .unset, .unset, .unset, .unset, .unset]) rfl ?_
    refine XS.iload X0.here hx rfl (hb hby at_6) rfl ?_
    refine XT.iconstV X0.here hx rfl (2 : Int32) (hb hby at_8) rfl ?_
    refine XS.iushr X0.here hx rfl (hb hby at_9) rfl ?_
    refine XT.iconstV X0.here hx rfl (3 : Int32) (hb hby at_10) rfl ?_
    refine XS.iand X0.here hx rfl (hb hby at_11) rfl ?_
    exact cont
  generalize hv2 : (((p5.toUInt32 >>> ((2 : Int32) &&& 31).toUInt32).toInt32) &&& (3 : Int32)) = v2
  refine own_go (B := s₁.setTop (mkF m 20 #[.val (.int p1), .val (.int p2), .val (.int p3), .val (.int p4), .val (.int p5), .val (.int v1), .val (.int v2), .unset, .unset, .unset, .unset, .unset, .unset, .unset] [(.int (((p5.toUInt32 >>> ((4 : Int32) &&& 31).toUInt32).toInt32) &&& (1 : Int32)))])) (fun tgt cont => ?_) ?_
  · refine XS.istore X0.here hx rfl (hb hby at_12) rfl (l' := #[.val (.int p1), .val (.int p2), .val (.int p3), .val (.int p4), .val (.int p5), .val (.int v1), .val (.int v2), .unset, .unset, .unset, .unset, .unset, .unset, .unset]) rfl ?_
    refine XS.iload X0.here hx rfl (hb hby at_14) rfl ?_
    refine XT.iconstV X0.here hx rfl (4 : Int32) (hb hby at_16) rfl ?_
    refine XS.iushr X0.here hx rfl (hb hby at_17) rfl ?_
    refine XT.iconstV X0.here hx rfl (1 : Int32) (hb hby at_18) rfl ?_
    refine XS.iand X0.here hx rfl (hb hby at_19) rfl ?_
    exact cont
  have K3 : ∀ (v4 : Int32) (hv4 : v4 = (if (((p5.toUInt32 >>> ((4 : Int32) &&& 31).toUInt32).toInt32) &&& (1 : Int32)) = 0 then (0 : Int32) else (1 : Int32))), own_Go p e below s (Q0 n0) room_1.cells room_1.slots (s₁.setTop (mkF m 28 #[.val (.int p1), .val (.int p2), .val (.int p3), .val (.int p4), .val (.int p5), .val (.int v1), .val (.int v2), .unset, .unset, .unset, .unset, .unset, .unset, .unset] [(.int v4)])) := by
    intro v4 hv4
    refine own_go (B := s₁.setTop (mkF m 33 #[.val (.int p1), .val (.int p2), .val (.int p3), .val (.int p4), .val (.int p5), .val (.int v1), .val (.int v2), .val (.int v4), .unset, .unset, .unset, .unset, .unset, .unset] [(.int (2147483583 : Int32)), (.int p1)])) (fun tgt cont => ?_) ?_
    · refine XS.istore X0.here hx rfl (hb hby at_28) rfl (l' := #[.val (.int p1), .val (.int p2), .val (.int p3), .val (.int p4), .val (.int p5), .val (.int v1), .val (.int v2), .val (.int v4), .unset, .unset, .unset, .unset, .unset, .unset]) rfl ?_
      refine XS.iloadN X0.here hx rfl (hb hby at_30) rfl ?_
      refine Stand.ldcI X0 hx hown (mvT hZ (hw _ (List.mem_of_getElem? (i := 0) rfl))) rfl (hb hby at_31) ?_
      exact cont
    -- pc 33: Math.min
    obtain ⟨_, _, ⟨T5, L5, k5, n5⟩, -, X5, ⟨Lc5, hQ5, l5, y5, z5⟩, st5⟩ := Jvm.LawKit.callS X0 hx (y := (⟨"java/lang/Math", "min", "(II)I"⟩ : MethodName)) hown (mvT hZ (hw _ (List.mem_of_getElem? (i := 1) rfl))) (mvT hZ (hw _ (List.mem_of_getElem? (i := 2) rfl))) (mvT hZ (hw _ (List.mem_of_getElem? (i := 3) rfl))) (mvT hZ (hw _ (List.mem_of_getElem? (i := 4) rfl))) (by decide) (backOf (W := 0) (rm1 l Z a0 hw [] p1 (2147483583 : Int32) h0 n0 Z0 ) hZ (hw _ (List.mem_of_getElem? (i := 4) rfl)) (hw _ (List.mem_of_getElem? (i := 3) rfl)) (by decide) (by decide)) (g := (mkF m 33 #[.val (.int p1), .val (.int p2), .val (.int p3), .val (.int p4), .val (.int p5), .val (.int v1), .val (.int v2), .val (.int v4), .unset, .unset, .unset, .unset, .unset, .unset] [(.int (2147483583 : Int32)), (.int p1)])) rfl (by rw [hml]; rfl) (argsL := [(.int p1), (.int (2147483583 : Int32))]) (rest := []) (lenOf own_pd0 rfl) rfl (by show 2 * 0 + _ ≤ _; exact Nat.le_of_eq rfl) (hb hby at_33) (fun _ _ => ⟨rfl, e0, (by decide : 0 + 0 ≤ _), (by decide : 0 + 0 ≤ _)⟩)
    dsimp only [Pt.U, Pt.locs, Pt.cells, Pt.slots] at X5 l5 y5 z5 st5 hQ5
    subst l5 y5 z5
    obtain ⟨rfl, N5q, e5⟩ := hQ5
    have N5 := Fr.app N0 N5q
    refine own_go (fun tgt cont => st5 tgt cont) ?_
    show own_Go p e below s (Q0 n0) room_1.cells room_1.slots (T5.setTop (mkF m 36 #[.val (.int p1), .val (.int p2), .val (.int p3), .val (.int p4), .val (.int p5), .val (.int v1), .val (.int v2), .val (.int v4), .unset, .unset, .unset, .unset, .unset, .unset] [(.int (own_min p1 (2147483583 : Int32)))]))
    generalize hr6 : (own_min p1 (2147483583 : Int32)) = r6
    refine own_go (B := T5.setTop (mkF m 40 #[.val (.int p1), .val (.int p2), .val (.int p3), .val (.int p4), .val (.int p5), .val (.int v1), .val (.int v2), .val (.int v4), .val (.int r6), .unset, .unset, .unset, .unset, .unset] [(.int v4)])) (fun tgt cont => ?_) ?_
    · refine XS.istore X5.here hx rfl (hb hby at_36) rfl (l' := #[.val (.int p1), .val (.int p2), .val (.int p3), .val (.int p4), .val (.int p5), .val (.int v1), .val (.int v2), .val (.int v4), .val (.int r6), .unset, .unset, .unset, .unset, .unset]) rfl ?_
      refine XS.iload X5.here hx rfl (hb hby at_38) rfl ?_
      exact cont
    have K7 : ∀ (T7 : State) (L7 : List Loc) (v8 : Int32) (X7 : Stand p l e room_1 s m #[(.int p1), (.int p2), (.int p3), (.int p4), (.int p5)] below meth c T7 L7 0 0) (e7 : T7.heap = h0) (N7 : Fr n0 L7) (hv8 : v8 = (if v4 = 0 then (r6 + (((p4.toUInt32 >>> ((9 : Int32) &&& 31).toUInt32).toInt32) &&& (15 : Int32))) else ((own_min p2 (2147483583 : Int32))))), own_Go p e below s (Q0 n0) room_1.cells room_1.slots (T7.setTop (mkF m 62 #[.val (.int p1), .val (.int p2), .val (.int p3), .val (.int p4), .val (.int p5), .val (.int v1), .val (.int v2), .val (.int v4), .val (.int r6), .unset, .unset, .unset, .unset, .unset] [(.int v8)])) := by
      intro T7 L7 v8 X7 e7 N7 hv8
      refine own_go (B := T7.setTop (mkF m 69 #[.val (.int p1), .val (.int p2), .val (.int p3), .val (.int p4), .val (.int p5), .val (.int v1), .val (.int v2), .val (.int v4), .val (.int r6), .val (.int v8), .unset, .unset, .unset, .unset] [(.int v1), (.int p3), (.int r6)])) (fun tgt cont => ?_) ?_
      · refine XS.istore X7.here hx rfl (hb hby at_62) rfl (l' := #[.val (.int p1), .val (.int p2), .val (.int p3), .val (.int p4), .val (.int p5), .val (.int v1), .val (.int v2), .val (.int v4), .val (.int r6), .val (.int v8), .unset, .unset, .unset, .unset]) rfl ?_
        refine XS.iload X7.here hx rfl (hb hby at_64) rfl ?_
        refine XS.iloadN X7.here hx rfl (hb hby at_66) rfl ?_
        refine XS.iload X7.here hx rfl (hb hby at_67) rfl ?_
        exact cont
      -- pc 69: SortedSetsDisjointPinLaw.build
      obtain ⟨_, _, ⟨T9, L9, k9, n9⟩, -, X9, ⟨Lc9, hQ9, l9, y9, z9⟩, st9⟩ := Jvm.LawKit.callS X7 hx (y := (⟨"com/example/treebound/treebound/SortedSetsDisjointPinLaw", "build", "(III)[I"⟩ : MethodName)) hown (mvT hZ (hw _ (List.mem_of_getElem? (i := 5) rfl))) (mvT hZ (hw _ (List.mem_of_getElem? (i := 6) rfl))) (mvT hZ (hw _ (List.mem_of_getElem? (i := 7) rfl))) (mvT hZ (hw _ (List.mem_of_getElem? (i := 8) rfl))) (by decide) (backOf (W := 0) (rm2 l Z a0 hw [] r6 p3 v1 h0 n0 Z0 (by subst hv1; exact own_eq0 p5 )) hZ (hw _ (List.mem_of_getElem? (i := 8) rfl)) (hw _ (List.mem_of_getElem? (i := 7) rfl)) (by decide) (by decide)) (g := (mkF m 69 #[.val (.int p1), .val (.int p2), .val (.int p3), .val (.int p4), .val (.int p5), .val (.int v1), .val (.int v2), .val (.int v4), .val (.int r6), .val (.int v8), .unset, .unset, .unset, .unset] [(.int v1), (.int p3), (.int r6)])) rfl (by rw [hml]; rfl) (argsL := [(.int r6), (.int p3), (.int v1)]) (rest := []) (lenOf own_pd1 rfl) rfl (by show 2 * 0 + _ ≤ _; exact Nat.le_of_eq rfl) (hb hby at_69) (fun _ _ => ⟨rfl, e7, (by decide : 0 + 1 ≤ _), (by decide : 0 + 3 ≤ _)⟩)
      dsimp only [Pt.U, Pt.locs, Pt.cells, Pt.slots] at X9 l9 y9 z9 st9 hQ9
      subst l9 y9 z9
      obtain ⟨b9, rfl, N9q, K9, gb9, ab9, eb9⟩ := hQ9
      have N9 := Fr.app N7 N9q
      have g_b9 : n0 ≤ b9 := Nat.le_trans Z0 gb9
      have sz_b9 : h0.size ≤ b9 := Nat.le_trans (Keep.refl h0 []).1 gb9
      have kk9 : Keep h0 T9.heap [] := (Keep.refl h0 []).trans K9 all0
      have zp9 : n0 ≤ T9.heap.size := Nat.le_trans Z0 kk9.1
      generalize hw10 : (own_bld r6 p3 v1) = w10 at ab9
      refine own_go (fun tgt cont => st9 tgt cont) ?_
      show own_Go p e below s (Q0 n0) room_1.cells room_1.slots (T9.setTop (mkF m 72 #[.val (.int p1), .val (.int p2), .val (.int p3), .val (.int p4), .val (.int p5), .val (.int v1), .val (.int v2), .val (.int v4), .val (.int r6), .val (.int v8), .unset, .unset, .unset, .unset] [(.ref b9)]))
      refine own_go (B := T9.setTop (mkF m 79 #[.val (.int p1), .val (.int p2), .val (.int p3), .val (.int p4), .val (.int p5), .val (.int v1), .val (.int v2), .val (.int v4), .val (.int r6), .val (.int v8), .val (.ref b9), .unset, .unset, .unset] [(.int v2), (.int p4), (.int v8)])) (fun tgt cont => ?_) ?_
      · refine XS.astore X9.here hx rfl (hb hby at_72) rfl rfl (l' := #[.val (.int p1), .val (.int p2), .val (.int p3), .val (.int p4), .val (.int p5), .val (.int v1), .val (.int v2), .val (.int v4), .val (.int r6), .val (.int v8), .val (.ref b9), .unset, .unset, .unset]) rfl ?_
        refine XS.iload X9.here hx rfl (hb hby at_74) rfl ?_
        refine XS.iloadN X9.here hx rfl (hb hby at_76) rfl ?_
        refine XS.iload X9.here hx rfl (hb hby at_77) rfl ?_
        exact cont
      -- pc 79: SortedSetsDisjointPinLaw.build
      obtain ⟨_, _, ⟨T11, L11, k11, n11⟩, -, X11, ⟨Lc11, hQ11, l11, y11, z11⟩, st11⟩ := Jvm.LawKit.callS X9 hx (y := (⟨"com/example/treebound/treebound/SortedSetsDisjointPinLaw", "build", "(III)[I"⟩ : MethodName)) hown (mvT hZ (hw _ (List.mem_of_getElem? (i := 5) rfl))) (mvT hZ (hw _ (List.mem_of_getElem? (i := 6) rfl))) (mvT hZ (hw _ (List.mem_of_getElem? (i := 7) rfl))) (mvT hZ (hw _ (List.mem_of_getElem? (i := 8) rfl))) (by decide) (backOf (W := 0) (rm2 l Z a0 hw [] v8 p4 v2 T9.heap n0 zp9 (by subst hv2; exact own_eq1 p5 )) hZ (hw _ (List.mem_of_getElem? (i := 8) rfl)) (hw _ (List.mem_of_getElem? (i := 7) rfl)) (by decide) (by decide)) (g := (mkF m 79 #[.val (.int p1), .val (.int p2), .val (.int p3), .val (.int p4), .val (.int p5), .val (.int v1), .val (.int v2), .val (.int v4), .val (.int r6), .val (.int v8), .val (.ref b9), .unset, .unset, .unset] [(.int v2), (.int p4), (.int v8)])) rfl (by rw [hml]; rfl) (argsL := [(.int v8), (.int p4), (.int v2)]) (rest := []) (lenOf own_pd1 rfl) rfl (by show 2 * 0 + _ ≤ _; exact Nat.le_of_eq rfl) (hb hby at_79) (fun _ _ => ⟨rfl, rfl, (by decide : 0 + 1 + 1 ≤ _), (by decide : 0 + 3 + 3 ≤ _)⟩)
      dsimp only [Pt.U, Pt.locs, Pt.cells, Pt.slots] at X11 l11 y11 z11 st11 hQ11
      subst l11 y11 z11
      obtain ⟨b11, rfl, N11q, K11, gb11, ab11, eb11⟩ := hQ11
      have N11 := Fr.app N9 N11q
      have g_b11 : n0 ≤ b11 := Nat.le_trans zp9 gb11
      have sz_b11 : h0.size ≤ b11 := Nat.le_trans kk9.1 gb11
      have ne_b9_b11 : b9 ≠ b11 := Nat.ne_of_lt (Nat.lt_of_lt_of_le eb9.lt gb11)
      have kk11 : Keep h0 T11.heap [] := kk9.trans K11 all0
      have zp11 : n0 ≤ T11.heap.size := Nat.le_trans Z0 kk11.1
      generalize hw12 : (own_bld v8 p4 v2) = w12 at ab11
      refine own_go (fun tgt cont => st11 tgt cont) ?_
      show own_Go p e below s (Q0 n0) room_1.cells room_1.slots (T11.setTop (mkF m 82 #[.val (.int p1), .val (.int p2), .val (.int p3), .val (.int p4), .val (.int p5), .val (.int v1), .val (.int v2), .val (.int v4), .val (.int r6), .val (.int v8), .val (.ref b9), .unset, .unset, .unset] [(.ref b11)]))
      have f13 := (ab9.keep K11 nin0)
      refine own_go (B := T11.setTop (mkF m 90 #[.val (.int p1), .val (.int p2), .val (.int p3), .val (.int p4), .val (.int p5), .val (.int v1), .val (.int v2), .val (.int v4), .val (.int r6), .val (.int v8), .val (.ref b9), .val (.ref b11), .val (.int (0 : Int32)), .unset] [(.int (Int32.ofNat w10.length))])) (fun tgt cont => ?_) ?_
      · refine XS.astore X11.here hx rfl (hb hby at_82) rfl rfl (l' := #[.val (.int p1), .val (.int p2), .val (.int p3), .val (.int p4), .val (.int p5), .val (.int v1), .val (.int v2), .val (.int v4), .val (.int r6), .val (.int v8), .val (.ref b9), .val (.ref b11), .unset, .unset]) rfl ?_
        refine XT.iconstV X11.here hx rfl (0 : Int32) (hb hby at_84) rfl ?_
        refine XS.istore X11.here hx rfl (hb hby at_85) rfl (l' := #[.val (.int p1), .val (.int p2), .val (.int p3), .val (.int p4), .val (.int p5), .val (.int v1), .val (.int v2), .val (.int v4), .val (.int r6), .val (.int v8), .val (.ref b9), .val (.ref b11), .val (.int (0 : Int32)), .unset]) rfl ?_
        refine XS.aload X11.here hx rfl (hb hby at_87) rfl rfl ?_
        refine own_lenIA X11 hx hZ rfl f13 (g := (mkF m 89 #[.val (.int p1), .val (.int p2), .val (.int p3), .val (.int p4), .val (.int p5), .val (.int v1), .val (.int v2), .val (.int v4), .val (.int r6), .val (.int v8), .val (.ref b9), .val (.ref b11), .val (.int (0 : Int32)), .unset] [(.ref b9)])) rfl rfl (hb hby at_89) ?_
        exact cont
      have K14 : ∀ (T14 : State) (L14 : List Loc) (v15 : Int32) (X14 : Stand p l e room_1 s m #[(.int p1), (.int p2), (.int p3), (.int p4), (.int p5)] below meth c T14 L14 2 6) (e14 : T14.heap = T11.heap) (N14 : Fr n0 L14) (hv15 : v15 = (if 0 < (Int32.ofNat w10.length) then (if ((own_inl_r (w10.getD (0 : Int32).toNatClampNeg 0) w12)) = 0 then (0 : Int32) else (1 : Int32)) else (0 : Int32))), own_Go p e below s (Q0 n0) room_1.cells room_1.slots (T14.setTop (mkF m 108 #[.val (.int p1), .val (.int p2), .val (.int p3), .val (.int p4), .val (.int p5), .val (.int v1), .val (.int v2), .val (.int v4), .val (.int r6), .val (.int v8), .val (.ref b9), .val (.ref b11), .val (.int v15), .unset] [])) := by
        intro T14 L14 v15 X14 e14 N14 hv15
        refine own_go (B := T14.setTop (mkF m 112 #[.val (.int p1), .val (.int p2), .val (.int p3), .val (.int p4), .val (.int p5), .val (.int v1), .val (.int v2), .val (.int v4), .val (.int r6), .val (.int v8), .val (.ref b9), .val (.ref b11), .val (.int v15), .unset] [(.int (1 : Int32)), (.int (Int32.ofNat w10.length))])) (fun tgt cont => ?_) ?_
        · refine XS.aload X14.here hx rfl (hb hby at_108) rfl rfl ?_
          refine own_lenIA X14 hx hZ e14 f13 (g := (mkF m 110 #[.val (.int p1), .val (.int p2), .val (.int p3), .val (.int p4), .val (.int p5), .val (.int v1), .val (.int v2), .val (.int v4), .val (.int r6), .val (.int v8), .val (.ref b9), .val (.ref b11), .val (.int v15), .unset] [(.ref b9)])) rfl rfl (hb hby at_110) ?_
          refine XT.iconstV X14.here hx rfl (1 : Int32) (hb hby at_111) rfl ?_
          exact cont
        have K16 : ∀ (T16 : State) (L16 : List Loc) (v17 : Int32) (X16 : Stand p l e room_1 s m #[(.int p1), (.int p2), (.int p3), (.int p4), (.int p5)] below meth c T16 L16 2 6) (e16 : T16.heap = T11.heap) (N16 : Fr n0 L16) (hv17 : v17 = (if (1 : Int32) < (Int32.ofNat w10.length) then (if ((own_inl_r (w10.getD (1 : Int32).toNatClampNeg 0) w12)) = 0 then v15 else (1 : Int32)) else v15)), own_Go p e below s (Q0 n0) room_1.cells room_1.slots (T16.setTop (mkF m 130 #[.val (.int p1), .val (.int p2), .val (.int p3), .val (.int p4), .val (.int p5), .val (.int v1), .val (.int v2), .val (.int v4), .val (.int r6), .val (.int v8), .val (.ref b9), .val (.ref b11), .val (.int v17), .unset] [])) := by
          intro T16 L16 v17 X16 e16 N16 hv17
          refine own_go (B := T16.setTop (mkF m 134 #[.val (.int p1), .val (.int p2), .val (.int p3), .val (.int p4), .val (.int p5), .val (.int v1), .val (.int v2), .val (.int v4), .val (.int r6), .val (.int v8), .val (.ref b9), .val (.ref b11), .val (.int v17), .unset] [(.int (2 : Int32)), (.int (Int32.ofNat w10.length))])) (fun tgt cont => ?_) ?_
          · refine XS.aload X16.here hx rfl (hb hby at_130) rfl rfl ?_
            refine own_lenIA X16 hx hZ e16 f13 (g := (mkF m 132 #[.val (.int p1), .val (.int p2), .val (.int p3), .val (.int p4), .val (.int p5), .val (.int v1), .val (.int v2), .val (.int v4), .val (.int r6), .val (.int v8), .val (.ref b9), .val (.ref b11), .val (.int v17), .unset] [(.ref b9)])) rfl rfl (hb hby at_132) ?_
            refine XT.iconstV X16.here hx rfl (2 : Int32) (hb hby at_133) rfl ?_
            exact cont
          have K18 : ∀ (T18 : State) (L18 : List Loc) (v19 : Int32) (X18 : Stand p l e room_1 s m #[(.int p1), (.int p2), (.int p3), (.int p4), (.int p5)] below meth c T18 L18 2 6) (e18 : T18.heap = T11.heap) (N18 : Fr n0 L18) (hv19 : v19 = (if (2 : Int32) < (Int32.ofNat w10.length) then (if ((own_inl_r (w10.getD (2 : Int32).toNatClampNeg 0) w12)) = 0 then v17 else (1 : Int32)) else v17)), own_Go p e below s (Q0 n0) room_1.cells room_1.slots (T18.setTop (mkF m 152 #[.val (.int p1), .val (.int p2), .val (.int p3), .val (.int p4), .val (.int p5), .val (.int v1), .val (.int v2), .val (.int v4), .val (.int r6), .val (.int v8), .val (.ref b9), .val (.ref b11), .val (.int v19), .unset] [])) := by
            intro T18 L18 v19 X18 e18 N18 hv19
            refine own_go (B := T18.setTop (mkF m 154 #[.val (.int p1), .val (.int p2), .val (.int p3), .val (.int p4), .val (.int p5), .val (.int v1), .val (.int v2), .val (.int v4), .val (.int r6), .val (.int v8), .val (.ref b9), .val (.ref b11), .val (.int v19), .unset] [(.int v19)])) (fun tgt cont => ?_) ?_
            · refine XS.iload X18.here hx rfl (hb hby at_152) rfl ?_
              exact cont
            have K20 : ∀ (v21 : Int32) (hv21 : v21 = (if v19 = 0 then (1 : Int32) else (0 : Int32))), own_Go p e below s (Q0 n0) room_1.cells room_1.slots (T18.setTop (mkF m 162 #[.val (.int p1), .val (.int p2), .val (.int p3), .val (.int p4), .val (.int p5), .val (.int v1), .val (.int v2), .val (.int v4), .val (.int r6), .val (.int v8), .val (.ref b9), .val (.ref b11), .val (.int v19), .unset] [(.int v21)])) := by
              intro v21 hv21
              refine own_go (B := T18.setTop (mkF m 168 #[.val (.int p1), .val (.int p2), .val (.int p3), .val (.int p4), .val (.int p5), .val (.int v1), .val (.int v2), .val (.int v4), .val (.int r6), .val (.int v8), .val (.ref b9), .val (.ref b11), .val (.int v19), .val (.int v21)] [(.ref b11), (.ref b9)])) (fun tgt cont => ?_) ?_
              · refine XS.istore X18.here hx rfl (hb hby at_162) rfl (l' := #[.val (.int p1), .val (.int p2), .val (.int p3), .val (.int p4), .val (.int p5), .val (.int v1), .val (.int v2), .val (.int v4), .val (.int r6), .val (.int v8), .val (.ref b9), .val (.ref b11), .val (.int v19), .val (.int v21)]) rfl ?_
                refine XS.aload X18.here hx rfl (hb hby at_164) rfl rfl ?_
                refine XS.aload X18.here hx rfl (hb hby at_166) rfl rfl ?_
                exact cont
              -- pc 168: SortedSets.disjoint
              obtain ⟨_, _, ⟨T22, L22, k22, n22⟩, -, X22, ⟨Lc22, hQ22, l22, y22, z22⟩, st22⟩ := Jvm.LawKit.callS X18 hx (y := (⟨"com/example/treebound/treebound/SortedSets", "disjoint", "([I[I)Z"⟩ : MethodName)) hown (mvT hZ (hw _ (List.mem_of_getElem? (i := 10) rfl))) (mvT hZ (hw _ (List.mem_of_getElem? (i := 11) rfl))) (mvT hZ (hw _ (List.mem_of_getElem? (i := 12) rfl))) (mvT hZ (hw _ (List.mem_of_getElem? (i := 13) rfl))) (by decide) (backOf (W := 0) (rm3 l Z a0 hw [] b9 b11 w10 w12 T11.heap n0 zp11 f13 ab11) hZ (hw _ (List.mem_of_getElem? (i := 13) rfl)) (hw _ (List.mem_of_getElem? (i := 12) rfl)) (by decide) (by decide)) (g := (mkF m 168 #[.val (.int p1), .val (.int p2), .val (.int p3), .val (.int p4), .val (.int p5), .val (.int v1), .val (.int v2), .val (.int v4), .val (.int r6), .val (.int v8), .val (.ref b9), .val (.ref b11), .val (.int v19), .val (.int v21)] [(.ref b11), (.ref b9)])) rfl (by rw [hml]; rfl) (argsL := [(.ref b9), (.ref b11)]) (rest := []) (lenOf own_pd3 rfl) rfl (by show 2 * 0 + _ ≤ _; exact Nat.le_of_eq rfl) (hb hby at_168) (fun _ _ => ⟨rfl, e18, (by decide : 2 + 0 ≤ _), (by decide : 6 + 0 ≤ _)⟩)
              dsimp only [Pt.U, Pt.locs, Pt.cells, Pt.slots] at X22 l22 y22 z22 st22 hQ22
              subst l22 y22 z22
              obtain ⟨rfl, N22q, e22⟩ := hQ22
              have N22 := Fr.app N18 N22q
              refine own_go (fun tgt cont => st22 tgt cont) ?_
              show own_Go p e below s (Q0 n0) room_1.cells room_1.slots (T22.setTop (mkF m 171 #[.val (.int p1), .val (.int p2), .val (.int p3), .val (.int p4), .val (.int p5), .val (.int v1), .val (.int v2), .val (.int v4), .val (.int r6), .val (.int v8), .val (.ref b9), .val (.ref b11), .val (.int v19), .val (.int v21)] [(.int (own_dj (w10.length + w12.length + 1) w10 w12))]))
              generalize hr23 : (own_dj (w10.length + w12.length + 1) w10 w12) = r23
              refine own_go (B := T22.setTop (mkF m 181 #[.val (.int p1), .val (.int p2), .val (.int p3), .val (.int p4), .val (.int p5), .val (.int v1), .val (.int v2), .val (.int v4), .val (.int r6), .val (.int v8), .val (.ref b9), .val (.ref b11), .val (.int v19), .val (.int v21)] [(.int (1 : Int32))])) (fun tgt cont => ?_) ?_
              · refine XS.iload X22.here hx rfl (hb hby at_171) rfl ?_
                refine XS.icmpNo X22.here hx rfl (hb hby at_173) rfl (XT.ii_ne_f (by subst hr23 hv21 hv19 hv17 hv15; exact own_eq4 w10 w12 (by subst hw10 hr6 hv1; exact own_eq2 p1 p3 p5 ) (by subst hw12 hv8 hv2 hv4 hr6; exact own_eq3 p5 p1 p4 p2 ))) ?_
                refine XT.iconstV X22.here hx rfl (1 : Int32) (hb hby at_176) rfl ?_
                refine XS.goto X22.here hx rfl (pc0 := 177) (pc' := 181) rfl (hb hby at_177) (by decide) (by decide) ?_
                exact cont
              refine own_end X22 (v := some (.int (1 : Int32))) (fun h => by rw [Bd.returns] at h; cases h) hlk ?_ (by decide) (by decide) (fun fs hl => retN X22 hx (t := .boolean) Bd.returns (by simp) (hb hby at_181) hl)
              exact ⟨rfl, N22⟩
            by_cases hc24 : v19 = 0
            ·
              refine own_go (B := T18.setTop (mkF m 162 #[.val (.int p1), .val (.int p2), .val (.int p3), .val (.int p4), .val (.int p5), .val (.int v1), .val (.int v2), .val (.int v4), .val (.int r6), .val (.int v8), .val (.ref b9), .val (.ref b11), .val (.int v19), .unset] [(.int (1 : Int32))])) (fun tgt cont => ?_) ?_
              · refine XS.ifNo X18.here hx rfl (hb hby at_154) rfl (XT.i0_ne_f hc24) ?_
                refine XT.iconstV X18.here hx rfl (1 : Int32) (hb hby at_157) rfl ?_
                refine XS.goto X18.here hx rfl (pc0 := 158) (pc' := 162) rfl (hb hby at_158) (by decide) (by decide) ?_
                exact cont
              exact K20 (1 : Int32) (by simp only [if_pos hc24])
            ·
              refine own_go (B := T18.setTop (mkF m 162 #[.val (.int p1), .val (.int p2), .val (.int p3), .val (.int p4), .val (.int p5), .val (.int v1), .val (.int v2), .val (.int v4), .val (.int r6), .val (.int v8), .val (.ref b9), .val (.ref b11), .val (.int v19), .unset] [(.int (0 : Int32))])) (fun tgt cont => ?_) ?_
              · refine XS.ifYes X18.here hx rfl (pc0 := 154) (pc' := 161) rfl (hb hby at_154) rfl (XT.i0_ne_t hc24) (by decide) (by decide) ?_
                refine XT.iconstV X18.here hx rfl (0 : Int32) (hb hby at_161) rfl ?_
                exact cont
              exact K20 (0 : Int32) (by simp only [if_neg hc24])
          by_cases hc25 : (2 : Int32) < (Int32.ofNat w10.length)
          ·
            refine own_go (B := T16.setTop (mkF m 143 #[.val (.int p1), .val (.int p2), .val (.int p3), .val (.int p4), .val (.int p5), .val (.int v1), .val (.int v2), .val (.int v4), .val (.int r6), .val (.int v8), .val (.ref b9), .val (.ref b11), .val (.int v17), .unset] [(.int (w10.getD (2 : Int32).toNatClampNeg 0)), (.ref b11)])) (fun tgt cont => ?_) ?_
            · refine XS.icmpNo X16.here hx rfl (hb hby at_134) rfl (XT.ii_le_f hc25) ?_
              refine XS.aload X16.here hx rfl (hb hby at_137) rfl rfl ?_
              refine XS.aload X16.here hx rfl (hb hby at_139) rfl rfl ?_
              refine XT.iconstV X16.here hx rfl (2 : Int32) (hb hby at_141) rfl ?_
              refine own_ldIA X16 hx hZ e16 f13 (j := (2 : Int32)) (own_inb (by decide) hc25 f13.small) (g := (mkF m 142 #[.val (.int p1), .val (.int p2), .val (.int p3), .val (.int p4), .val (.int p5), .val (.int v1), .val (.int v2), .val (.int v4), .val (.int r6), .val (.int v8), .val (.ref b9), .val (.ref b11), .val (.int v17), .unset] [(.int (2 : Int32)), (.ref b9), (.ref b11)])) rfl rfl (hb hby at_142) ?_
              exact cont
            -- pc 143: SortedSetsDisjointPinLaw.in
            obtain ⟨_, _, ⟨T26, L26, k26, n26⟩, -, X26, ⟨Lc26, hQ26, l26, y26, z26⟩, st26⟩ := Jvm.LawKit.callS X16 hx (y := (⟨"com/example/treebound/treebound/SortedSetsDisjointPinLaw", "in", "([II)Z"⟩ : MethodName)) hown (mvT hZ (hw _ (List.mem_of_getElem? (i := 14) rfl))) (mvT hZ (hw _ (List.mem_of_getElem? (i := 15) rfl))) (mvT hZ (hw _ (List.mem_of_getElem? (i := 7) rfl))) (mvT hZ (hw _ (List.mem_of_getElem? (i := 16) rfl))) (by decide) (backOf (W := 0) (rm4 l Z a0 hw [] b11 (w10.getD (2 : Int32).toNatClampNeg 0) w12 T11.heap n0 zp11 ab11) hZ (hw _ (List.mem_of_getElem? (i := 16) rfl)) (hw _ (List.mem_of_getElem? (i := 7) rfl)) (by decide) (by decide)) (g := (mkF m 143 #[.val (.int p1), .val (.int p2), .val (.int p3), .val (.int p4), .val (.int p5), .val (.int v1), .val (.int v2), .val (.int v4), .val (.int r6), .val (.int v8), .val (.ref b9), .val (.ref b11), .val (.int v17), .unset] [(.int (w10.getD (2 : Int32).toNatClampNeg 0)), (.ref b11)])) rfl (by rw [hml]; rfl) (argsL := [(.ref b11), (.int (w10.getD (2 : Int32).toNatClampNeg 0))]) (rest := []) (lenOf own_pd2 rfl) rfl (by show 2 * 0 + _ ≤ _; exact Nat.le_of_eq rfl) (hb hby at_143) (fun _ _ => ⟨rfl, e16, (by decide : 2 + 0 ≤ _), (by decide : 6 + 0 ≤ _)⟩)
            dsimp only [Pt.U, Pt.locs, Pt.cells, Pt.slots] at X26 l26 y26 z26 st26 hQ26
            subst l26 y26 z26
            obtain ⟨rfl, N26q, e26⟩ := hQ26
            have N26 := Fr.app N16 N26q
            refine own_go (fun tgt cont => st26 tgt cont) ?_
            show own_Go p e below s (Q0 n0) room_1.cells room_1.slots (T26.setTop (mkF m 146 #[.val (.int p1), .val (.int p2), .val (.int p3), .val (.int p4), .val (.int p5), .val (.int v1), .val (.int v2), .val (.int v4), .val (.int r6), .val (.int v8), .val (.ref b9), .val (.ref b11), .val (.int v17), .unset] [(.int (own_inl_r (w10.getD (2 : Int32).toNatClampNeg 0) w12))]))
            generalize hr27 : (own_inl_r (w10.getD (2 : Int32).toNatClampNeg 0) w12) = r27
            by_cases hc28 : r27 = 0
            ·
              refine own_go (B := T26.setTop (mkF m 152 #[.val (.int p1), .val (.int p2), .val (.int p3), .val (.int p4), .val (.int p5), .val (.int v1), .val (.int v2), .val (.int v4), .val (.int r6), .val (.int v8), .val (.ref b9), .val (.ref b11), .val (.int v17), .unset] [])) (fun tgt cont => ?_) ?_
              · refine XS.ifYes X26.here hx rfl (pc0 := 146) (pc' := 152) rfl (hb hby at_146) rfl (XT.i0_eq_t hc28) (by decide) (by decide) ?_
                exact cont
              exact K18 _ _ v17 (own_wide X26 (by decide) (by decide)) e26 N26 (by subst hr27; simp only [if_pos hc25, if_pos hc28])
            ·
              refine own_go (B := T26.setTop (mkF m 152 #[.val (.int p1), .val (.int p2), .val (.int p3), .val (.int p4), .val (.int p5), .val (.int v1), .val (.int v2), .val (.int v4), .val (.int r6), .val (.int v8), .val (.ref b9), .val (.ref b11), .val (.int (1 : Int32)), .unset] [])) (fun tgt cont => ?_) ?_
              · refine XS.ifNo X26.here hx rfl (hb hby at_146) rfl (XT.i0_eq_f hc28) ?_
                refine XT.iconstV X26.here hx rfl (1 : Int32) (hb hby at_149) rfl ?_
                refine XS.istore X26.here hx rfl (hb hby at_150) rfl (l' := #[.val (.int p1), .val (.int p2), .val (.int p3), .val (.int p4), .val (.int p5), .val (.int v1), .val (.int v2), .val (.int v4), .val (.int r6), .val (.int v8), .val (.ref b9), .val (.ref b11), .val (.int (1 : Int32)), .unset]) rfl ?_
                exact cont
              exact K18 _ _ (1 : Int32) (own_wide X26 (by decide) (by decide)) e26 N26 (by subst hr27; simp only [if_pos hc25, if_neg hc28])
          ·
            refine own_go (B := T16.setTop (mkF m 152 #[.val (.int p1), .val (.int p2), .val (.int p3), .val (.int p4), .val (.int p5), .val (.int v1), .val (.int v2), .val (.int v4), .val (.int r6), .val (.int v8), .val (.ref b9), .val (.ref b11), .val (.int v17), .unset] [])) (fun tgt cont => ?_) ?_
            · refine XS.icmpYes X16.here hx rfl (pc0 := 134) (pc' := 152) rfl (hb hby at_134) rfl (XT.ii_le_t hc25) (by decide) (by decide) ?_
              exact cont
            exact K18 _ _ v17 (own_wide X16 (by decide) (by decide)) e16 N16 (by simp only [if_neg hc25])
        by_cases hc29 : (1 : Int32) < (Int32.ofNat w10.length)
        ·
          refine own_go (B := T14.setTop (mkF m 121 #[.val (.int p1), .val (.int p2), .val (.int p3), .val (.int p4), .val (.int p5), .val (.int v1), .val (.int v2), .val (.int v4), .val (.int r6), .val (.int v8), .val (.ref b9), .val (.ref b11), .val (.int v15), .unset] [(.int (w10.getD (1 : Int32).toNatClampNeg 0)), (.ref b11)])) (fun tgt cont => ?_) ?_
          · refine XS.icmpNo X14.here hx rfl (hb hby at_112) rfl (XT.ii_le_f hc29) ?_
            refine XS.aload X14.here hx rfl (hb hby at_115) rfl rfl ?_
            refine XS.aload X14.here hx rfl (hb hby at_117) rfl rfl ?_
            refine XT.iconstV X14.here hx rfl (1 : Int32) (hb hby at_119) rfl ?_
            refine own_ldIA X14 hx hZ e14 f13 (j := (1 : Int32)) (own_inb (by decide) hc29 f13.small) (g := (mkF m 120 #[.val (.int p1), .val (.int p2), .val (.int p3), .val (.int p4), .val (.int p5), .val (.int v1), .val (.int v2), .val (.int v4), .val (.int r6), .val (.int v8), .val (.ref b9), .val (.ref b11), .val (.int v15), .unset] [(.int (1 : Int32)), (.ref b9), (.ref b11)])) rfl rfl (hb hby at_120) ?_
            exact cont
          -- pc 121: SortedSetsDisjointPinLaw.in
          obtain ⟨_, _, ⟨T30, L30, k30, n30⟩, -, X30, ⟨Lc30, hQ30, l30, y30, z30⟩, st30⟩ := Jvm.LawKit.callS X14 hx (y := (⟨"com/example/treebound/treebound/SortedSetsDisjointPinLaw", "in", "([II)Z"⟩ : MethodName)) hown (mvT hZ (hw _ (List.mem_of_getElem? (i := 14) rfl))) (mvT hZ (hw _ (List.mem_of_getElem? (i := 15) rfl))) (mvT hZ (hw _ (List.mem_of_getElem? (i := 7) rfl))) (mvT hZ (hw _ (List.mem_of_getElem? (i := 16) rfl))) (by decide) (backOf (W := 0) (rm4 l Z a0 hw [] b11 (w10.getD (1 : Int32).toNatClampNeg 0) w12 T11.heap n0 zp11 ab11) hZ (hw _ (List.mem_of_getElem? (i := 16) rfl)) (hw _ (List.mem_of_getElem? (i := 7) rfl)) (by decide) (by decide)) (g := (mkF m 121 #[.val (.int p1), .val (.int p2), .val (.int p3), .val (.int p4), .val (.int p5), .val (.int v1), .val (.int v2), .val (.int v4), .val (.int r6), .val (.int v8), .val (.ref b9), .val (.ref b11), .val (.int v15), .unset] [(.int (w10.getD (1 : Int32).toNatClampNeg 0)), (.ref b11)])) rfl (by rw [hml]; rfl) (argsL := [(.ref b11), (.int (w10.getD (1 : Int32).toNatClampNeg 0))]) (rest := []) (lenOf own_pd2 rfl) rfl (by show 2 * 0 + _ ≤ _; exact Nat.le_of_eq rfl) (hb hby at_121) (fun _ _ => ⟨rfl, e14, (by decide : 2 + 0 ≤ _), (by decide : 6 + 0 ≤ _)⟩)
          dsimp only [Pt.U, Pt.locs, Pt.cells, Pt.slots] at X30 l30 y30 z30 st30 hQ30
          subst l30 y30 z30
          obtain ⟨rfl, N30q, e30⟩ := hQ30
          have N30 := Fr.app N14 N30q
          refine own_go (fun tgt cont => st30 tgt cont) ?_
          show own_Go p e below s (Q0 n0) room_1.cells room_1.slots (T30.setTop (mkF m 124 #[.val (.int p1), .val (.int p2), .val (.int p3), .val (.int p4), .val (.int p5), .val (.int v1), .val (.int v2), .val (.int v4), .val (.int r6), .val (.int v8), .val (.ref b9), .val (.ref b11), .val (.int v15), .unset] [(.int (own_inl_r (w10.getD (1 : Int32).toNatClampNeg 0) w12))]))
          generalize hr31 : (own_inl_r (w10.getD (1 : Int32).toNatClampNeg 0) w12) = r31
          by_cases hc32 : r31 = 0
          ·
            refine own_go (B := T30.setTop (mkF m 130 #[.val (.int p1), .val (.int p2), .val (.int p3), .val (.int p4), .val (.int p5), .val (.int v1), .val (.int v2), .val (.int v4), .val (.int r6), .val (.int v8), .val (.ref b9), .val (.ref b11), .val (.int v15), .unset] [])) (fun tgt cont => ?_) ?_
            · refine XS.ifYes X30.here hx rfl (pc0 := 124) (pc' := 130) rfl (hb hby at_124) rfl (XT.i0_eq_t hc32) (by decide) (by decide) ?_
              exact cont
            exact K16 _ _ v15 (own_wide X30 (by decide) (by decide)) e30 N30 (by subst hr31; simp only [if_pos hc29, if_pos hc32])
          ·
            refine own_go (B := T30.setTop (mkF m 130 #[.val (.int p1), .val (.int p2), .val (.int p3), .val (.int p4), .val (.int p5), .val (.int v1), .val (.int v2), .val (.int v4), .val (.int r6), .val (.int v8), .val (.ref b9), .val (.ref b11), .val (.int (1 : Int32)), .unset] [])) (fun tgt cont => ?_) ?_
            · refine XS.ifNo X30.here hx rfl (hb hby at_124) rfl (XT.i0_eq_f hc32) ?_
              refine XT.iconstV X30.here hx rfl (1 : Int32) (hb hby at_127) rfl ?_
              refine XS.istore X30.here hx rfl (hb hby at_128) rfl (l' := #[.val (.int p1), .val (.int p2), .val (.int p3), .val (.int p4), .val (.int p5), .val (.int v1), .val (.int v2), .val (.int v4), .val (.int r6), .val (.int v8), .val (.ref b9), .val (.ref b11), .val (.int (1 : Int32)), .unset]) rfl ?_
              exact cont
            exact K16 _ _ (1 : Int32) (own_wide X30 (by decide) (by decide)) e30 N30 (by subst hr31; simp only [if_pos hc29, if_neg hc32])
        ·
          refine own_go (B := T14.setTop (mkF m 130 #[.val (.int p1), .val (.int p2), .val (.int p3), .val (.int p4), .val (.int p5), .val (.int v1), .val (.int v2), .val (.int v4), .val (.int r6), .val (.int v8), .val (.ref b9), .val (.ref b11), .val (.int v15), .unset] [])) (fun tgt cont => ?_) ?_
          · refine XS.icmpYes X14.here hx rfl (pc0 := 112) (pc' := 130) rfl (hb hby at_112) rfl (XT.ii_le_t hc29) (by decide) (by decide) ?_
            exact cont
          exact K16 _ _ v15 (own_wide X14 (by decide) (by decide)) e14 N14 (by simp only [if_neg hc29])
      by_cases hc33 : 0 < (Int32.ofNat w10.length)
      ·
        refine own_go (B := T11.setTop (mkF m 99 #[.val (.int p1), .val (.int p2), .val (.int p3), .val (.int p4), .val (.int p5), .val (.int v1), .val (.int v2), .val (.int v4), .val (.int r6), .val (.int v8), .val (.ref b9), .val (.ref b11), .val (.int (0 : Int32)), .unset] [(.int (w10.getD (0 : Int32).toNatClampNeg 0)), (.ref b11)])) (fun tgt cont => ?_) ?_
        · refine XS.ifNo X11.here hx rfl (hb hby at_90) rfl (XT.i0_le_f hc33) ?_
          refine XS.aload X11.here hx rfl (hb hby at_93) rfl rfl ?_
          refine XS.aload X11.here hx rfl (hb hby at_95) rfl rfl ?_
          refine XT.iconstV X11.here hx rfl (0 : Int32) (hb hby at_97) rfl ?_
          refine own_ldIA X11 hx hZ rfl f13 (j := (0 : Int32)) (own_inb (by decide) hc33 f13.small) (g := (mkF m 98 #[.val (.int p1), .val (.int p2), .val (.int p3), .val (.int p4), .val (.int p5), .val (.int v1), .val (.int v2), .val (.int v4), .val (.int r6), .val (.int v8), .val (.ref b9), .val (.ref b11), .val (.int (0 : Int32)), .unset] [(.int (0 : Int32)), (.ref b9), (.ref b11)])) rfl rfl (hb hby at_98) ?_
          exact cont
        -- pc 99: SortedSetsDisjointPinLaw.in
        obtain ⟨_, _, ⟨T34, L34, k34, n34⟩, -, X34, ⟨Lc34, hQ34, l34, y34, z34⟩, st34⟩ := Jvm.LawKit.callS X11 hx (y := (⟨"com/example/treebound/treebound/SortedSetsDisjointPinLaw", "in", "([II)Z"⟩ : MethodName)) hown (mvT hZ (hw _ (List.mem_of_getElem? (i := 14) rfl))) (mvT hZ (hw _ (List.mem_of_getElem? (i := 15) rfl))) (mvT hZ (hw _ (List.mem_of_getElem? (i := 7) rfl))) (mvT hZ (hw _ (List.mem_of_getElem? (i := 16) rfl))) (by decide) (backOf (W := 0) (rm4 l Z a0 hw [] b11 (w10.getD (0 : Int32).toNatClampNeg 0) w12 T11.heap n0 zp11 ab11) hZ (hw _ (List.mem_of_getElem? (i := 16) rfl)) (hw _ (List.mem_of_getElem? (i := 7) rfl)) (by decide) (by decide)) (g := (mkF m 99 #[.val (.int p1), .val (.int p2), .val (.int p3), .val (.int p4), .val (.int p5), .val (.int v1), .val (.int v2), .val (.int v4), .val (.int r6), .val (.int v8), .val (.ref b9), .val (.ref b11), .val (.int (0 : Int32)), .unset] [(.int (w10.getD (0 : Int32).toNatClampNeg 0)), (.ref b11)])) rfl (by rw [hml]; rfl) (argsL := [(.ref b11), (.int (w10.getD (0 : Int32).toNatClampNeg 0))]) (rest := []) (lenOf own_pd2 rfl) rfl (by show 2 * 0 + _ ≤ _; exact Nat.le_of_eq rfl) (hb hby at_99) (fun _ _ => ⟨rfl, rfl, (by decide : 0 + 1 + 1 + 0 ≤ _), (by decide : 0 + 3 + 3 + 0 ≤ _)⟩)
        dsimp only [Pt.U, Pt.locs, Pt.cells, Pt.slots] at X34 l34 y34 z34 st34 hQ34
        subst l34 y34 z34
        obtain ⟨rfl, N34q, e34⟩ := hQ34
        have N34 := Fr.app N11 N34q
        refine own_go (fun tgt cont => st34 tgt cont) ?_
        show own_Go p e below s (Q0 n0) room_1.cells room_1.slots (T34.setTop (mkF m 102 #[.val (.int p1), .val (.int p2), .val (.int p3), .val (.int p4), .val (.int p5), .val (.int v1), .val (.int v2), .val (.int v4), .val (.int r6), .val (.int v8), .val (.ref b9), .val (.ref b11), .val (.int (0 : Int32)), .unset] [(.int (own_inl_r (w10.getD (0 : Int32).toNatClampNeg 0) w12))]))
        generalize hr35 : (own_inl_r (w10.getD (0 : Int32).toNatClampNeg 0) w12) = r35
        by_cases hc36 : r35 = 0
        ·
          refine own_go (B := T34.setTop (mkF m 108 #[.val (.int p1), .val (.int p2), .val (.int p3), .val (.int p4), .val (.int p5), .val (.int v1), .val (.int v2), .val (.int v4), .val (.int r6), .val (.int v8), .val (.ref b9), .val (.ref b11), .val (.int (0 : Int32)), .unset] [])) (fun tgt cont => ?_) ?_
          · refine XS.ifYes X34.here hx rfl (pc0 := 102) (pc' := 108) rfl (hb hby at_102) rfl (XT.i0_eq_t hc36) (by decide) (by decide) ?_
            exact cont
          exact K14 _ _ (0 : Int32) (own_wide X34 (by decide) (by decide)) e34 N34 (by subst hr35; simp only [if_pos hc33, if_pos hc36])
        ·
          refine own_go (B := T34.setTop (mkF m 108 #[.val (.int p1), .val (.int p2), .val (.int p3), .val (.int p4), .val (.int p5), .val (.int v1), .val (.int v2), .val (.int v4), .val (.int r6), .val (.int v8), .val (.ref b9), .val (.ref b11), .val (.int (1 : Int32)), .unset] [])) (fun tgt cont => ?_) ?_
          · refine XS.ifNo X34.here hx rfl (hb hby at_102) rfl (XT.i0_eq_f hc36) ?_
            refine XT.iconstV X34.here hx rfl (1 : Int32) (hb hby at_105) rfl ?_
            refine XS.istore X34.here hx rfl (hb hby at_106) rfl (l' := #[.val (.int p1), .val (.int p2), .val (.int p3), .val (.int p4), .val (.int p5), .val (.int v1), .val (.int v2), .val (.int v4), .val (.int r6), .val (.int v8), .val (.ref b9), .val (.ref b11), .val (.int (1 : Int32)), .unset]) rfl ?_
            exact cont
          exact K14 _ _ (1 : Int32) (own_wide X34 (by decide) (by decide)) e34 N34 (by subst hr35; simp only [if_pos hc33, if_neg hc36])
      ·
        refine own_go (B := T11.setTop (mkF m 108 #[.val (.int p1), .val (.int p2), .val (.int p3), .val (.int p4), .val (.int p5), .val (.int v1), .val (.int v2), .val (.int v4), .val (.int r6), .val (.int v8), .val (.ref b9), .val (.ref b11), .val (.int (0 : Int32)), .unset] [])) (fun tgt cont => ?_) ?_
        · refine XS.ifYes X11.here hx rfl (pc0 := 90) (pc' := 108) rfl (hb hby at_90) rfl (XT.i0_le_t hc33) (by decide) (by decide) ?_
          exact cont
        exact K14 _ _ (0 : Int32) (own_wide X11 (by decide) (by decide)) rfl N11 (by simp only [if_neg hc33])
    by_cases hc37 : v4 = 0
    ·
      refine own_go (B := T5.setTop (mkF m 62 #[.val (.int p1), .val (.int p2), .val (.int p3), .val (.int p4), .val (.int p5), .val (.int v1), .val (.int v2), .val (.int v4), .val (.int r6), .unset, .unset, .unset, .unset, .unset] [(.int (r6 + (((p4.toUInt32 >>> ((9 : Int32) &&& 31).toUInt32).toInt32) &&& (15 : Int32))))])) (fun tgt cont => ?_) ?_
      · refine XS.ifYes X5.here hx rfl (pc0 := 40) (pc' := 52) rfl (hb hby at_40) rfl (XT.i0_eq_t hc37) (by decide) (by decide) ?_
        refine XS.iload X5.here hx rfl (hb hby at_52) rfl ?_
        refine XS.iloadN X5.here hx rfl (hb hby at_54) rfl ?_
        refine XT.bipushV X5.here hx rfl (9 : Int32) (hb hby at_55) rfl ?_
        refine XS.iushr X5.here hx rfl (hb hby at_57) rfl ?_
        refine XT.bipushV X5.here hx rfl (15 : Int32) (hb hby at_58) rfl ?_
        refine XS.iand X5.here hx rfl (hb hby at_60) rfl ?_
        refine XS.iadd X5.here hx rfl (hb hby at_61) rfl ?_
        exact cont
      exact K7 _ _ (r6 + (((p4.toUInt32 >>> ((9 : Int32) &&& 31).toUInt32).toInt32) &&& (15 : Int32))) (own_wide X5 (by decide) (by decide)) e5 N5 (by simp only [if_pos hc37])
    ·
      refine own_go (B := T5.setTop (mkF m 46 #[.val (.int p1), .val (.int p2), .val (.int p3), .val (.int p4), .val (.int p5), .val (.int v1), .val (.int v2), .val (.int v4), .val (.int r6), .unset, .unset, .unset, .unset, .unset] [(.int (2147483583 : Int32)), (.int p2)])) (fun tgt cont => ?_) ?_
      · refine XS.ifNo X5.here hx rfl (hb hby at_40) rfl (XT.i0_eq_f hc37) ?_
        refine XS.iloadN X5.here hx rfl (hb hby at_43) rfl ?_
        refine Stand.ldcI X5 hx hown (mvT hZ (hw _ (List.mem_of_getElem? (i := 0) rfl))) rfl (hb hby at_44) ?_
        exact cont
      -- pc 46: Math.min
      obtain ⟨_, _, ⟨T38, L38, k38, n38⟩, -, X38, ⟨Lc38, hQ38, l38, y38, z38⟩, st38⟩ := Jvm.LawKit.callS X5 hx (y := (⟨"java/lang/Math", "min", "(II)I"⟩ : MethodName)) hown (mvT hZ (hw _ (List.mem_of_getElem? (i := 1) rfl))) (mvT hZ (hw _ (List.mem_of_getElem? (i := 2) rfl))) (mvT hZ (hw _ (List.mem_of_getElem? (i := 3) rfl))) (mvT hZ (hw _ (List.mem_of_getElem? (i := 4) rfl))) (by decide) (backOf (W := 0) (rm1 l Z a0 hw [] p2 (2147483583 : Int32) h0 n0 Z0 ) hZ (hw _ (List.mem_of_getElem? (i := 4) rfl)) (hw _ (List.mem_of_getElem? (i := 3) rfl)) (by decide) (by decide)) (g := (mkF m 46 #[.val (.int p1), .val (.int p2), .val (.int p3), .val (.int p4), .val (.int p5), .val (.int v1), .val (.int v2), .val (.int v4), .val (.int r6), .unset, .unset, .unset, .unset, .unset] [(.int (2147483583 : Int32)), (.int p2)])) rfl (by rw [hml]; rfl) (argsL := [(.int p2), (.int (2147483583 : Int32))]) (rest := []) (lenOf own_pd0 rfl) rfl (by show 2 * 0 + _ ≤ _; exact Nat.le_of_eq rfl) (hb hby at_46) (fun _ _ => ⟨rfl, e5, (by decide : 0 + 0 + 0 ≤ _), (by decide : 0 + 0 + 0 ≤ _)⟩)
      dsimp only [Pt.U, Pt.locs, Pt.cells, Pt.slots] at X38 l38 y38 z38 st38 hQ38
      subst l38 y38 z38
      obtain ⟨rfl, N38q, e38⟩ := hQ38
      have N38 := Fr.app N5 N38q
      refine own_go (fun tgt cont => st38 tgt cont) ?_
      show own_Go p e below s (Q0 n0) room_1.cells room_1.slots (T38.setTop (mkF m 49 #[.val (.int p1), .val (.int p2), .val (.int p3), .val (.int p4), .val (.int p5), .val (.int v1), .val (.int v2), .val (.int v4), .val (.int r6), .unset, .unset, .unset, .unset, .unset] [(.int (own_min p2 (2147483583 : Int32)))]))
      generalize hr39 : (own_min p2 (2147483583 : Int32)) = r39
      refine own_go (B := T38.setTop (mkF m 62 #[.val (.int p1), .val (.int p2), .val (.int p3), .val (.int p4), .val (.int p5), .val (.int v1), .val (.int v2), .val (.int v4), .val (.int r6), .unset, .unset, .unset, .unset, .unset] [(.int r39)])) (fun tgt cont => ?_) ?_
      · refine XS.goto X38.here hx rfl (pc0 := 49) (pc' := 62) rfl (hb hby at_49) (by decide) (by decide) ?_
        exact cont
      exact K7 _ _ r39 (own_wide X38 (by decide) (by decide)) e38 N38 (by subst hr39; simp only [if_neg hc37])
  by_cases hc40 : (((p5.toUInt32 >>> ((4 : Int32) &&& 31).toUInt32).toInt32) &&& (1 : Int32)) = 0
  ·
    refine own_go (B := s₁.setTop (mkF m 28 #[.val (.int p1), .val (.int p2), .val (.int p3), .val (.int p4), .val (.int p5), .val (.int v1), .val (.int v2), .unset, .unset, .unset, .unset, .unset, .unset, .unset] [(.int (0 : Int32))])) (fun tgt cont => ?_) ?_
    · refine XS.ifYes X0.here hx rfl (pc0 := 20) (pc' := 27) rfl (hb hby at_20) rfl (XT.i0_eq_t hc40) (by decide) (by decide) ?_
      refine XT.iconstV X0.here hx rfl (0 : Int32) (hb hby at_27) rfl ?_
      exact cont
    exact K3 (0 : Int32) (by simp only [if_pos hc40])
  ·
    refine own_go (B := s₁.setTop (mkF m 28 #[.val (.int p1), .val (.int p2), .val (.int p3), .val (.int p4), .val (.int p5), .val (.int v1), .val (.int v2), .unset, .unset, .unset, .unset, .unset, .unset, .unset] [(.int (1 : Int32))])) (fun tgt cont => ?_) ?_
    · refine XS.ifNo X0.here hx rfl (hb hby at_20) rfl (XT.i0_eq_f hc40) ?_
      refine XT.iconstV X0.here hx rfl (1 : Int32) (hb hby at_23) rfl ?_
      refine XS.goto X0.here hx rfl (pc0 := 24) (pc' := 28) rfl (hb hby at_24) (by decide) (by decide) ?_
      exact cont
    exact K3 (1 : Int32) (by simp only [if_neg hc40])
set_option maxRecDepth 65536 in
set_option maxHeartbeats 40000000 in
theorem comes_1 {Post : Tables → Env → Array Value → State → Outcome → State → Prop} (hpost : ∀ tb e args s v u, (limb_1_1.after args s (.returned v) u = true ∧ limb_1_2.after args s (.returned v) u = true ∧ True) → FrameEnd s (.returned v) u (Jvm.fieldLocs frame_1_writes args s ++ Jvm.arrayLocs frame_1_arrays args s ++ Jvm.staticLocs frame_1_statics s) 16 128 → Post tb e args s (.returned v) u) :
    ArmFor flags0 classFile x code maxLocals ret World_1 tables_1 room_1 Calls_1 rest_1 Pre_1 Post := by
  intro l hfl _ _ p e ha hc hk s m args below hf hA hF happ hP
  obtain ⟨hcalls, hrest, hpre⟩ := hP
  obtain ⟨-, -, -, hnamed, -, -, -, hat⟩ := (Spec.applies_iff hf).mp happ
  obtain ⟨hg, hn⟩ := and_e (Cond.before_iff.mp (show (Jvm.Cond.and given_1 narrow_1).before args s = true from hpre))
  obtain ⟨g0, gr0⟩ := and_e hg
  obtain ⟨ga0, gr1⟩ := and_e gr0
  obtain ⟨ga1, gr2⟩ := and_e gr1
  obtain ⟨ga2, gr3⟩ := and_e gr2
  obtain ⟨ga3, gr4⟩ := and_e gr3
  obtain ⟨w0, w1, w2, w3, w4, rfl⟩ : ∃ w0 w1 w2 w3 w4 : Value, args = #[w0, w1, w2, w3, w4] := by
    have hs : args.size = 5 := by simpa [Cond.value, given_1] using g0
    obtain ⟨L⟩ := args
    match L, hs with
    | [w0, w1, w2, w3, w4], _ => exact ⟨w0, w1, w2, w3, w4, rfl⟩
  have hw := fun d (hd : d ∈ tables_1) => atoms_spec (ws := Jvm.Cond.code x code maxLocals ret :: tables_1) hat d (List.mem_cons_of_mem _ hd)
  obtain ⟨i0, ei0⟩ := is_v ga0
  obtain rfl : w0 = (.int i0) := Option.some.inj ei0
  obtain ⟨i1, ei1⟩ := is_v ga1
  obtain rfl : w1 = (.int i1) := Option.some.inj ei1
  obtain ⟨i2, ei2⟩ := is_v ga2
  obtain rfl : w2 = (.int i2) := Option.some.inj ei2
  obtain ⟨i3, ei3⟩ := is_v ga3
  obtain rfl : w3 = (.int i3) := Option.some.inj ei3
  obtain ⟨i4, ei4⟩ := is_v gr4
  obtain rfl : w4 = (.int i4) := Option.some.inj ei4
  obtain ⟨n, o, h1, h2, h3, _, L, rfl, ⟨rfl, N⟩, hq⟩ := rm0 l s _ hw tables_1 i0 i1 i2 i3 i4 s.heap s.heap.size (Nat.le_refl _) p e ha hc hk s m _ below hf ((Spec.applies_iff_loose hf).mp happ).1 ⟨rfl, State.Warmed39.refl s, rfl⟩ trivial
  refine ⟨n, _, h1, h2, h3, hpost _ _ _ _ _ _ ⟨Cond.after_iff.mpr rfl, Cond.after_iff.mpr (eq_i res_at (Term.int_eval (1)) rfl), trivial⟩ ⟨hq.1, hq.2.1, (hq.2.2.sift fun y hy => Or.inr (N y hy)).mono (by decide) (by decide)⟩⟩
theorem main_1_1 : Claimed_1_1 := comes_1 fun _ _ _ _ _ _ h hF => ⟨h.1, hF⟩
theorem main_1_2 : Claimed_1_2 := comes_1 fun _ _ _ _ _ _ h hF => ⟨h.2.1, hF⟩
end Jvm.Pilot.@@N@@
namespace Jvm.Pilot.@@N@@
open Jvm Jvm.ClassFile Sem Op Lib Jvm.Free Jvm.Stand Jvm.Pilot.@@N@@.Jvm.D
/-! MADE BY PROGRAM (witnessworld.py) out of the Statement's table words and the real class files: 10 classes; the members and pool entries that the words name. The judged class is class 1, her method 3. -/
namespace start1
open Jvm.ClassFile
def u (s : String) : CpInfo := .utf8 (stringToUtf16 s)
/-- a pool by its gaps: so many unusable entries, then the entry; so many at the end -/
def gap : Nat → List CpInfo → List CpInfo
  | 0, r => r
  | n + 1, r => .unusable :: gap n r
def poolList (es : List (Nat × CpInfo)) (last : Nat) : List CpInfo := es.foldr (fun e r => gap e.1 (e.2 :: r)) (gap last [])
def pool (es : List (Nat × CpInfo)) (last : Nat) : Array CpInfo := ⟨poolList es last⟩
def fileOf (pool : Array CpInfo) (this : Nat) (attrs : Array Attribute := #[]) (ms : Array MethodInfo := #[]) (fl : Nat := 33) (sup : Nat := 0) (ifs : Array Nat := #[]) (fds : Array FieldInfo := #[]) : ClassFile where
  minorVersion := 0
  majorVersion := 65
  constantPool := pool
  accessFlags := fl
  thisClass := this
  superClass := sup
  interfaces := ifs
  fields := fds
  methods := ms
  attributes := attrs
def plain (name : String) (sup : Option ClassId) : Class where
  name := name
  kind := .ordinary
  loader := none
  accessFlags := 33
  super := sup
  interfaces := #[]
  cf := none
  fields := #[]
  methods := #[]
  instanceTypes := #[]
  staticTypes := #[]
  resolved := #[]
  callSites := []
  init := .initialized
  statics := none
  mirror := none

def pool0 : Array CpInfo := pool [(5, u "<init>"), (0, u "()V"), (1, .class_ 10), (1, u "java/lang/Object")] 113

def k0m0 : Method := { name := "<init>", desc := "()V", sig := { parameters := [], returnType := none }, accessFlags := 1, code := none }
/-- java/lang/Object -/
def k0 : Class := { plain "java/lang/Object" none with
  accessFlags := 33
  interfaces := #[]
  cf := some (fileOf pool0 8 #[] #[{ accessFlags := 1, nameIndex := 5, descriptorIndex := 6, attributes := #[] }] 33 0 #[] #[])
  fields := #[]
  methods := #[k0m0]
  instanceTypes := #[]
  staticTypes := #[]
  resolved := Array.replicate 124 none
  statics := none }

def pool1 : Array CpInfo := pool [(2, .class_ 4), (1, u "java/lang/Object"), (0, u "<init>"), (0, u "()V"), (0, .integer 2147483583), (0, .methodref 9 10), (0, .class_ 11), (0, .nameAndType 12 13), (0, u "java/lang/Math"), (0, u "min"), (0, u "(II)I"), (0, .methodref 15 16), (0, .class_ 17), (0, .nameAndType 18 19), (0, u "com/example/treebound/treebound/SortedSetsDisjointPinLaw"), (0, u "build"), (0, u "(III)[I"), (0, .methodref 15 21), (0, .nameAndType 22 23), (0, u "in"), (0, u "([II)Z"), (0, .methodref 25 26), (0, .class_ 27), (0, .nameAndType 28 29), (0, u "com/example/treebound/treebound/SortedSets"), (0, u "disjoint"), (0, u "([I[I)Z"), (5, u "law"), (0, u "(IIIII)Z")] 2

def k1m0 : Method := { name := "<init>", desc := "()V", sig := { parameters := [], returnType := none }, accessFlags := 2, code := none }
def k1c1 : Code := { maxStack := 3, maxLocals := 7, code := method_2_code, exceptionTable := #[], attributes := #[] }
def k1m1 : Method := { name := "build", desc := "(III)[I", sig := { parameters := [.int, .int, .int], returnType := some (.array .int) }, accessFlags := 10, code := some k1c1 }
def k1c2 : Code := { maxStack := 2, maxLocals := 3, code := method_3_code, exceptionTable := #[], attributes := #[] }
def k1m2 : Method := { name := "in", desc := "([II)Z", sig := { parameters := [(.array .int), .int], returnType := some .boolean }, accessFlags := 10, code := some k1c2 }
def k1c3 : Code := { maxStack := 3, maxLocals := 14, code := code, exceptionTable := #[], attributes := #[] }
def k1m3 : Method := { name := "law", desc := "(IIIII)Z", sig := { parameters := [.int, .int, .int, .int, .int], returnType := some .boolean }, accessFlags := 9, code := some k1c3 }
/-- com/example/treebound/treebound/SortedSetsDisjointPinLaw -/
def k1 : Class := { plain "com/example/treebound/treebound/SortedSetsDisjointPinLaw" (some 0) with
  accessFlags := 49
  interfaces := #[]
  cf := some (fileOf pool1 15 #[] #[{ accessFlags := 2, nameIndex := 5, descriptorIndex := 6, attributes := #[] }, { accessFlags := 10, nameIndex := 18, descriptorIndex := 19, attributes := #[] }, { accessFlags := 10, nameIndex := 22, descriptorIndex := 23, attributes := #[] }, { accessFlags := 9, nameIndex := 35, descriptorIndex := 36, attributes := #[] }] 49 2 #[] #[])
  fields := #[]
  methods := #[k1m0, k1m1, k1m2, k1m3]
  instanceTypes := #[]
  staticTypes := #[]
  resolved := Array.replicate 39 none
  statics := none }

def pool2 : Array CpInfo := pool [(1, .class_ 2), (0, u "java/lang/Math"), (1, .class_ 6), (1, u "java/lang/Object"), (0, u "<init>"), (0, u "()V"), (89, .class_ 100), (1, u "java/lang/Math$RandomNumberGeneratorHolder"), (71, u "negativeZeroFloatBits"), (0, u "J"), (2, u "negativeZeroDoubleBits"), (24, u "min"), (43, u "$assertionsDisabled"), (0, u "Z"), (88, u "(II)I"), (2, u "twoToTheDoubleScaleDown"), (0, u "D"), (4, u "twoToTheDoubleScaleUp"), (9, u "E"), (3, u "PI"), (2, u "TAU"), (2, u "DEGREES_TO_RADIANS"), (0, u "RADIANS_TO_DEGREES")] 94

def k2m0 : Method := { name := "<init>", desc := "()V", sig := { parameters := [], returnType := none }, accessFlags := 2, code := none }
def k2c1 : Code := { maxStack := 2, maxLocals := 2, code := jdk_29_method_69_code, exceptionTable := #[], attributes := #[] }
def k2m1 : Method := { name := "min", desc := "(II)I", sig := { parameters := [.int, .int], returnType := some .int }, accessFlags := 9, code := some k2c1 }
/-- java/lang/Math -/
def k2 : Class := { plain "java/lang/Math" (some 0) with
  accessFlags := 49
  interfaces := #[]
  cf := some (fileOf pool2 1 #[.nestMembers #[98]] #[{ accessFlags := 2, nameIndex := 7, descriptorIndex := 8, attributes := #[] }, { accessFlags := 9, nameIndex := 201, descriptorIndex := 335, attributes := #[] }] 49 4 #[] #[{ accessFlags := 25, nameIndex := 354, descriptorIndex := 339, attributes := #[] }, { accessFlags := 25, nameIndex := 358, descriptorIndex := 339, attributes := #[] }, { accessFlags := 25, nameIndex := 361, descriptorIndex := 339, attributes := #[] }, { accessFlags := 26, nameIndex := 364, descriptorIndex := 339, attributes := #[] }, { accessFlags := 26, nameIndex := 365, descriptorIndex := 339, attributes := #[] }, { accessFlags := 26, nameIndex := 172, descriptorIndex := 173, attributes := #[] }, { accessFlags := 26, nameIndex := 176, descriptorIndex := 173, attributes := #[] }, { accessFlags := 8, nameIndex := 344, descriptorIndex := 339, attributes := #[] }, { accessFlags := 8, nameIndex := 338, descriptorIndex := 339, attributes := #[] }, { accessFlags := 4120, nameIndex := 245, descriptorIndex := 246, attributes := #[] }])
  fields := #[{ name := "E", type := .double, accessFlags := 25, slot := 0, constantValue := 0 }, { name := "PI", type := .double, accessFlags := 25, slot := 1, constantValue := 0 }, { name := "TAU", type := .double, accessFlags := 25, slot := 2, constantValue := 0 }, { name := "DEGREES_TO_RADIANS", type := .double, accessFlags := 26, slot := 3, constantValue := 0 }, { name := "RADIANS_TO_DEGREES", type := .double, accessFlags := 26, slot := 4, constantValue := 0 }, { name := "negativeZeroFloatBits", type := .long, accessFlags := 26, slot := 5, constantValue := 0 }, { name := "negativeZeroDoubleBits", type := .long, accessFlags := 26, slot := 6, constantValue := 0 }, { name := "twoToTheDoubleScaleUp", type := .double, accessFlags := 8, slot := 7, constantValue := 0 }, { name := "twoToTheDoubleScaleDown", type := .double, accessFlags := 8, slot := 8, constantValue := 0 }, { name := "$assertionsDisabled", type := .boolean, accessFlags := 4120, slot := 9, constantValue := 0 }]
  methods := #[k2m0, k2m1]
  instanceTypes := #[]
  staticTypes := #[.double, .double, .double, .double, .double, .long, .long, .double, .double, .boolean]
  resolved := Array.replicate 460 none
  statics := none }

def pool3 : Array CpInfo := pool [(2, .class_ 4), (1, u "java/lang/Object"), (0, u "<init>"), (0, u "()V"), (6, .class_ 14), (0, u "com/example/treebound/treebound/SortedSets"), (3, u "([I[I)Z"), (3, u "disjoint")] 6

def k3m0 : Method := { name := "<init>", desc := "()V", sig := { parameters := [], returnType := none }, accessFlags := 2, code := none }
def k3c1 : Code := { maxStack := 3, maxLocals := 4, code := prog_44_method_3_code, exceptionTable := #[], attributes := #[] }
def k3m1 : Method := { name := "disjoint", desc := "([I[I)Z", sig := { parameters := [(.array .int), (.array .int)], returnType := some .boolean }, accessFlags := 8, code := some k3c1 }
/-- com/example/treebound/treebound/SortedSets -/
def k3 : Class := { plain "com/example/treebound/treebound/SortedSets" (some 0) with
  accessFlags := 48
  interfaces := #[]
  cf := some (fileOf pool3 13 #[] #[{ accessFlags := 2, nameIndex := 5, descriptorIndex := 6, attributes := #[] }, { accessFlags := 8, nameIndex := 22, descriptorIndex := 18, attributes := #[] }] 48 2 #[] #[])
  fields := #[]
  methods := #[k3m0, k3m1]
  instanceTypes := #[]
  staticTypes := #[]
  resolved := Array.replicate 29 none
  statics := none }

def pool4 : Array CpInfo := pool [(1, u "java/lang/Cloneable"), (0, .class_ 1), (0, u "java/lang/Object"), (0, .class_ 3)] 3

/-- java/lang/Cloneable -/
def k4 : Class := { plain "java/lang/Cloneable" (some 0) with
  accessFlags := 1537
  interfaces := #[]
  cf := some (fileOf pool4 2 #[] #[] 1537 4 #[] #[])
  fields := #[]
  methods := #[]
  instanceTypes := #[]
  staticTypes := #[]
  resolved := Array.replicate 8 none
  statics := none }

def pool5 : Array CpInfo := pool [(1, u "java/io/Serializable"), (0, .class_ 1), (0, u "java/lang/Object"), (0, .class_ 3)] 3

/-- java/io/Serializable -/
def k5 : Class := { plain "java/io/Serializable" (some 0) with
  accessFlags := 1537
  interfaces := #[]
  cf := some (fileOf pool5 2 #[] #[] 1537 4 #[] #[])
  fields := #[]
  methods := #[]
  instanceTypes := #[]
  staticTypes := #[]
  resolved := Array.replicate 8 none
  statics := none }

/-- the primitive byte -/
def k6 : Class := { plain "byte" none with kind := .primitive 'B', accessFlags := 0x411 }
/-- [B -/
def k7 : Class := { plain "[B" (some 0) with kind := .array 6 .byte, interfaces := #[4, 5], accessFlags := 1041 }

/-- the primitive int -/
def k8 : Class := { plain "int" none with kind := .primitive 'I', accessFlags := 0x411 }
/-- [I -/
def k9 : Class := { plain "[I" (some 0) with kind := .array 8 .int, interfaces := #[4, 5], accessFlags := 1041 }

def heap : Heap := #[]
def classes : Array Class := #[k0, k1, k2, k3, k4, k5, k6, k7, k8, k9]
def interned : List (Array UInt16 × Addr) := []
def slotsUsed : Nat := 0
def theMethod : MethodId := ⟨1, 3⟩
def args0 : Array Value := #[.int 5, .int 300, .int 7, .int 8, .int 9]
def aboutOver (below : List Frame) : State where
  vm := { classes := classes, interned := interned.toArray }
  heap := heap
  slotsUsed := slotsUsed
  threads := #[{ frames := .invoking theMethod args0 :: below }]
def below0 : List Frame := [.native { method := ⟨0, 0⟩, args := #[] }]
def about1 : State := aboutOver below0
def p0 : Program := .bare "" "" ""
def e0 : Env := launch0.env 0 0 0
theorem w_frames : about1.frames = Frame.invoking theMethod args0 :: below0 := rfl
set_option maxRecDepth 65536 in
theorem w_args : argsFit about1.vm theMethod args0 = true := by decide +kernel
set_option maxRecDepth 65536 in
theorem w_heap : heapFits about1 = true := by decide +kernel
set_option maxRecDepth 65536 in
theorem w_runnable : about1.curStatus? = some .runnable := by decide +kernel
set_option maxRecDepth 65536 in
theorem w_alone : about1.alone = true := by decide +kernel
set_option maxRecDepth 65536 in
theorem w_named : about1.methodNamed? x = some theMethod := by decide +kernel
set_option maxRecDepth 65536 in
theorem w_hears : about1.hears theMethod below0 = true := by decide +kernel
set_option maxRecDepth 65536 in
theorem w_ripe : about1.ripe theMethod args0 below0 = true := by decide +kernel
theorem w_running : about1.status = .running := rfl
set_option maxRecDepth 65536 in
theorem w_room : about1.hasRoom e0.platform room_1 = true :=
  launch0.hasRoom_least _ room_1 (by decide +kernel) (by decide +kernel) (by decide +kernel) (by decide +kernel) (by decide +kernel) (by decide +kernel)
theorem allAtoms_all (ts : List Jvm.Cond) (a : Array Jvm.Value) (st : Jvm.State) : (allAtoms ts).before a st = ts.all (fun c => c.before a st) := by
  induction ts with
  | nil => rfl
  | cons c t ih =>
    show (Jvm.Cond.and c (allAtoms t)).before a st = _
    rw [Jvm.Cond.before_and, ih, List.all_cons]
def words1 : List Jvm.Cond := Jvm.Cond.code x code maxLocals ret :: tables_1
/-- a 'code' word, met by the world's own term for the bytes: nothing is compared byte by byte -/
theorem code_word {y : MethodName} {bytes : ByteArray} {mx : Nat} {rt : Option FieldType} {a : Array Value} {s : State} {m : MethodId} {meth : Method} {c : Code} (h1 : s.methodNamed? y = some m) (h2 : s.vm.method? m = some meth) (h3 : meth.code = some c) (h4 : c.code = bytes)
    (h5 : (c.maxLocals == mx && c.exceptionTable.isEmpty && decide (c.maxStack ≤ mostOperands) && decide (meth.sig.returnType = rt) && !meth.locks && decide (parseMethodDescriptor y.desc = some meth.sig)) = true) : (Jvm.Cond.code y bytes mx rt).before a s = true := by
  simp only [Bool.and_eq_true, beq_iff_eq, Bool.not_eq_true', decide_eq_true_eq] at h5
  obtain ⟨⟨⟨⟨⟨g1, g2⟩, g3⟩, g4⟩, g5⟩, g6⟩ := h5
  simp [Cond.before, Cond.holds, Cond.value, h1, h2, h3, h4, g1, g2, g3, g4, g5, g6]
def isCode : Jvm.Cond → Bool
  | .code _ _ _ _ => true
  | _ => false
theorem all_split {L : List Jvm.Cond} {P : Jvm.Cond → Bool} (h1 : L.all (fun c => isCode c || P c) = true) (h2 : ∀ c ∈ L.filter isCode, P c = true) : L.all P = true := by
  refine List.all_eq_true.mpr fun c hc => ?_
  have h := List.all_eq_true.mp h1 c hc
  rcases Bool.eq_false_or_eq_true (isCode c) with hi | hi
  · exact h2 c (List.mem_filter.mpr ⟨hc, hi⟩)
  · simpa [hi] using h
set_option maxRecDepth 65536 in
theorem w_c0 : (Jvm.Cond.code x code maxLocals ret).before args0 about1 = true := code_word (m := ⟨1, 3⟩) (meth := k1m3) (c := k1c3) (by decide +kernel) rfl rfl rfl (by decide +kernel)
set_option maxRecDepth 65536 in
theorem w_c1 : (Jvm.Cond.code ({ cls := "java/lang/Math", name := "min", desc := "(II)I" } : Jvm.MethodName) jdk_29_method_69_code (2 : Nat) (Option.some Jvm.ClassFile.FieldType.int)).before args0 about1 = true := code_word (m := ⟨2, 1⟩) (meth := k2m1) (c := k2c1) (by decide +kernel) rfl rfl rfl (by decide +kernel)
set_option maxRecDepth 65536 in
theorem w_c2 : (Jvm.Cond.code ({ cls := "com/example/treebound/treebound/SortedSetsDisjointPinLaw", name := "build", desc := "(III)[I" } : Jvm.MethodName) method_2_code (7 : Nat) (Option.some (Jvm.ClassFile.FieldType.array Jvm.ClassFile.FieldType.int))).before args0 about1 = true := code_word (m := ⟨1, 1⟩) (meth := k1m1) (c := k1c1) (by decide +kernel) rfl rfl rfl (by decide +kernel)
set_option maxRecDepth 65536 in
theorem w_c3 : (Jvm.Cond.code ({ cls := "com/example/treebound/treebound/SortedSets", name := "disjoint", desc := "([I[I)Z" } : Jvm.MethodName) prog_44_method_3_code (4 : Nat) (Option.some Jvm.ClassFile.FieldType.boolean)).before args0 about1 = true := code_word (m := ⟨3, 1⟩) (meth := k3m1) (c := k3c1) (by decide +kernel) rfl rfl rfl (by decide +kernel)
set_option maxRecDepth 65536 in
theorem w_c4 : (Jvm.Cond.code ({ cls := "com/example/treebound/treebound/SortedSetsDisjointPinLaw", name := "in", desc := "([II)Z" } : Jvm.MethodName) method_3_code (3 : Nat) (Option.some Jvm.ClassFile.FieldType.boolean)).before args0 about1 = true := code_word (m := ⟨1, 2⟩) (meth := k1m2) (c := k1c2) (by decide +kernel) rfl rfl rfl (by decide +kernel)
def codes1 : List Jvm.Cond := [Jvm.Cond.code x code maxLocals ret, Jvm.Cond.code ({ cls := "java/lang/Math", name := "min", desc := "(II)I" } : Jvm.MethodName) jdk_29_method_69_code (2 : Nat) (Option.some Jvm.ClassFile.FieldType.int), Jvm.Cond.code ({ cls := "com/example/treebound/treebound/SortedSetsDisjointPinLaw", name := "build", desc := "(III)[I" } : Jvm.MethodName) method_2_code (7 : Nat) (Option.some (Jvm.ClassFile.FieldType.array Jvm.ClassFile.FieldType.int)), Jvm.Cond.code ({ cls := "com/example/treebound/treebound/SortedSets", name := "disjoint", desc := "([I[I)Z" } : Jvm.MethodName) prog_44_method_3_code (4 : Nat) (Option.some Jvm.ClassFile.FieldType.boolean), Jvm.Cond.code ({ cls := "com/example/treebound/treebound/SortedSetsDisjointPinLaw", name := "in", desc := "([II)Z" } : Jvm.MethodName) method_3_code (3 : Nat) (Option.some Jvm.ClassFile.FieldType.boolean)]
set_option maxRecDepth 65536 in
theorem codes_eq : words1.filter isCode = codes1 := rfl
theorem w_codes : ∀ c ∈ words1.filter isCode, c.before args0 about1 = true := by
  rw [codes_eq]
  intro c hc
  simp only [codes1, List.mem_cons, List.not_mem_nil, or_false] at hc
  rcases hc with rfl | rfl | rfl | rfl | rfl
  · exact w_c0
  · exact w_c1
  · exact w_c2
  · exact w_c3
  · exact w_c4
set_option maxRecDepth 65536 in
theorem w_t1 : words1.all (fun c => isCode c || c.before args0 about1) = true := by decide +kernel
theorem w_tables : (allAtoms (Jvm.Cond.code x code maxLocals ret :: tables_1)).before args0 about1 = true := by
  rw [allAtoms_all]
  show words1.all (fun c => c.before args0 about1) = true
  refine all_split ?_ w_codes
  rw [w_t1]
set_option maxRecDepth 65536 in
theorem w_case : (Jvm.Cond.and given_1 narrow_1).before args0 about1 = true := by decide +kernel
theorem w_applies : (headSpec (Jvm.Cond.code x code maxLocals ret :: tables_1) room_1).applies x e0.platform about1 = true :=
  (Spec.applies_iff w_frames).mpr ⟨w_running, w_runnable, w_alone, w_named, w_hears, w_ripe, w_room, w_tables⟩
theorem atStart : AtStart classFile x code maxLocals ret World_1 tables_1 room_1 Calls_1 rest_1 Pre_1 launch0 p0 e0 about1 theMethod args0 below0 :=
  ⟨lists_1, trivial, launch0.admits_env _ _ _, launch0.least_env, fairChoices_fair.cas, fairChoices_fair.clock, w_frames, w_args, w_heap, w_applies, trivial, trivial, w_case⟩
end start1
theorem witness_1 : WitnessClaimed_1 := ⟨start1.p0, start1.e0, start1.about1, start1.theMethod, start1.args0, start1.below0, start1.atStart⟩
end Jvm.Pilot.@@N@@
