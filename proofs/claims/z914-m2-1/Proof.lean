import JvmDerived
import JvmDerived.Pilot.@@N@@Statement
import JvmDerived.Pilot.@@N@@Code
set_option linter.unusedVariables false
set_option linter.unusedSimpArgs false
namespace Jvm.RoadKit
open Sem ClassFile Op Lib Jvm.Stand Jvm.Free Jvm.LawKit
section New
variable {p : Program} {l : Launch} {e : Env} {R : Room} {s : State} {m : MethodId} {args : Array Value} {below : List Frame} {meth : Method} {c : Code} {T : State} {locs : List Loc} {cells slots : Nat}
theorem retI (X : Stand p l e R s m args below meth c T locs cells slots) (hx : p.tables.exec = Jvm.exec) {pc : Nat} {Ls : Array Slot} {z : Int32} {rest : List Value} (hret : meth.sig.returnType = some .int) (hd : decode c.code pc = .ok (.ireturn, 1)) {fs : List Frame}
    (hl : ∀ (f : JFrame) (acts : List Action), f.method = m → f.locked = none → f.entered = [] → (doReturn e (T.setTop f) acts (some (.int z))).1 = T.setFrames fs) : Steps p.tables e below (T.setTop (mkF m pc Ls (.int z :: rest))) (T.setFrames fs) := by
  have hm' : T.vm.method? m = some meth := X.method'
  have hn : narrow .int (.int z) = .int z := rfl
  show Steps p.tables e below (T.setTop { method := m, pc := pc, locals := Ls, stack := _ :: rest, locked := none }) _
  jvm_step X.here [X.here.top, hx, hd, hm', hret, hn]
  first | (intro acts; rw [hl _ acts rfl rfl rfl]) | rw [hl _ _ rfl rfl rfl]
  exact Steps.refl _
end New
end Jvm.RoadKit
namespace Jvm.Pilot.@@N@@
open Jvm Jvm.ClassFile Sem Op Lib Jvm.Free Jvm.Stand Jvm.LawKit Jvm.RoadKit Bundle Jvm.Pilot.@@N@@.Jvm.D
/-! my own layer: all goals of a walk have one shape -/
section Own
variable {p : Program} {l : Launch} {e : Env} {R : Room} {s : State} {m : MethodId} {args : Array Value} {below : List Frame} {meth : Method} {c : Code} {T : State} {locs : List Loc} {cells slots : Nat} {Q : Option Value → Heap → List Loc → Prop} {nc ns : Nat} {A B : State}
/-- from A the method comes to its end, with Q of what it returns, of the heap and of the places written -/
def own_Go (p : Program) (e : Env) (below : List Frame) (s : State) (Q : Option Value → Heap → List Loc → Prop) (nc ns : Nat) (A : State) : Prop :=
  ∃ s₂ o, Steps p.tables e below A s₂ ∧ s₂.status = .running ∧ Ended s₂ below o ∧ ∃ v L, o = .returned v ∧ Q v s₂.heap L ∧ FrameEnd s o s₂ L nc ns
theorem own_go (k : ∀ t, Steps p.tables e below B t → Steps p.tables e below A t) (h : own_Go p e below s Q nc ns B) : own_Go p e below s Q nc ns A := by
  obtain ⟨t, o, h1, h2⟩ := h
  exact ⟨t, o, k t h1, h2⟩
theorem own_end (X : Stand p l e R s m args below meth c T locs cells slots) {v : Option Value} (hv : meth.sig.returnType = none → v = none) (hlk : meth.locks = false) (hq : Q v T.heap locs) (hc : cells ≤ nc) (hs : slots ≤ ns)
    (hst : ∀ fs, (∀ (f : JFrame) (acts : List Action), f.method = m → f.locked = none → f.entered = [] → (doReturn e (T.setTop f) acts v).1 = T.setFrames fs) → Steps p.tables e below A (T.setFrames fs)) : own_Go p e below s Q nc ns A := by
  obtain ⟨fs, hr, hrun, hended, hW, hsame⟩ := X.leave (v := v) hv hlk
  exact ⟨_, _, hst fs hr, hrun, hended, v, locs, rfl, hq, ⟨_, rfl⟩, hW, hsame.mono hc hs⟩
theorem own_wide {cells' slots' : Nat} (X : Stand p l e R s m args below meth c T locs cells slots) (hc : cells ≤ cells') (hs : slots ≤ slots') : Stand p l e R s m args below meth c T locs cells' slots' :=
  { X with same := X.same.mono hc hs }
theorem own_lrem {tb : Tables} [Ours tb] {target : State} {g : JFrame} (h : At T m c below) (hx : tb.exec = Jvm.exec) (hg : g.method = m) {x y : Int64} {rest : List Value} (hd : decode c.code g.pc = .ok (.lrem, 1)) (hs : g.stack = .long y :: .long x :: rest) (hy : y ≠ 0)
    (hr : Steps tb e below (T.setTop { g with pc := g.pc + 1, stack := .long (x % y) :: rest }) target) : Steps tb e below (T.setTop g) target :=
  XS.lrem h hx hg hd hs hy (by rw [lrem_mod]; exact hr)
end Own
section Own2
variable {Z s : State} {a0 args : Array Value} {h : Heap} {a b : Addr} {C : String} {c : Cell} {ty : FieldType}
theorem own_selP {y : MethodName} {n : Nat} (hZ : Z.Warmed39 s.vm) (wi : (Jvm.Cond.instantiable y.cls n).before a0 Z = true) (w2 : (Jvm.Cond.instanceMethod y).before a0 Z = true) (w3 : (Jvm.Cond.privateMethod y).before a0 Z = true)
    (hy : y.cls ≠ "java/lang/invoke/MethodHandle" ∧ y.cls ≠ "java/lang/invoke/VarHandle" := by decide) : (Jvm.Cond.selects y.cls y y).before args s = true := by
  have wi' : (Jvm.Cond.instantiable y.cls n).before args s = true := mvT hZ wi
  obtain ⟨c, k, h1, h2, -, h4, -⟩ := Cond.instantiable_spec wi'
  have h5 : k.isInterface = false := by
    cases hk : k.isInterface
    · rfl
    · rw [hk] at h4; simp at h4
  exact selects_self_of_private h1 h2 h5 (Cond.privateMethod_at (mvP hZ w3 (args := #[]))) (mvT hZ w2) hy
theorem own_neA {n : Nat} (F : Exa Z h a C) (wi : (Jvm.Cond.instantiable C n).before a0 Z = true) (G : ∃ c, Arr Z h b c ty) : a ≠ b := by
  obtain ⟨c, G⟩ := G
  exact ne_arr F wi G
end Own2
/-! small naturals as ints -/
theorem own_toI {n : Nat} (h : n < 2147483648) : (Int32.ofNat n).toInt = n := Int32.toInt_ofNat_of_lt h
theorem own_toN {n : Nat} (h : n < 2147483648) : (Int32.ofNat n).toNatClampNeg = n := by
  rw [Int32.toNatClampNeg, own_toI h]; omega
theorem own_one {i : Nat} : Int32.ofNat i + (1 : Int32) = Int32.ofNat (i + 1) := (Int32.ofNat_add i 1).symm
theorem own_inb {j : Int32} {n : Nat} (h0 : ¬ j < 0) (h : j < Int32.ofNat n) (hn : n < 2147483648) : ¬ j < 0 ∧ j.toNatClampNeg < n := by
  refine ⟨h0, ?_⟩
  rw [Int32.lt_iff_toInt_lt, own_toI hn] at h
  rw [Int32.lt_iff_toInt_lt] at h0
  have e0 : (0 : Int32).toInt = 0 := rfl
  rw [Int32.toNatClampNeg]; omega
theorem own_inN {i n : Nat} (h : i < n) (hn : n < 2147483648) : ¬ Int32.ofNat i < 0 ∧ (Int32.ofNat i).toNatClampNeg < n := by
  rw [own_toN (by omega), Int32.lt_iff_toInt_lt, own_toI (by omega)]
  have e0 : (0 : Int32).toInt = 0 := rfl
  omega
theorem own_ofNat_lt {i n : Nat} (h : Int32.ofNat i < Int32.ofNat n) (hn : n < 2147483648) (hi : i ≤ n) : i < n := by
  rw [Int32.lt_iff_toInt_lt, own_toI hn, own_toI (by omega)] at h; omega
theorem own_ofNat_nlt {i n : Nat} (h : ¬ Int32.ofNat i < Int32.ofNat n) (hn : n < 2147483648) (hi : i ≤ n) : n ≤ i := by
  rw [Int32.lt_iff_toInt_lt, own_toI hn, own_toI (by omega)] at h; omega
theorem own_drop (vs : List Int32) {i : Nat} (h : i < vs.length) : vs.drop i = vs.getD i 0 :: vs.drop (i + 1) := by
  rw [List.drop_eq_getElem_cons h, List.getD_eq_getElem?_getD, List.getElem?_eq_getElem h]; rfl
theorem own_ofNat_inj {i n : Nat} (h : Int32.ofNat i = Int32.ofNat n) (hn : n < 2147483648) (hi : i ≤ n) : i = n := by
  have q := congrArg Int32.toInt h
  rw [own_toI hn, own_toI (by omega)] at q; omega

/-! arrays as lists -/
section OwnIA
variable {p : Program} {l : Launch} {e : Env} {R : Room} {s : State} {m : MethodId} {args : Array Value} {below : List Frame} {meth : Method} {c : Code} {T : State} {locs : List Loc} {cells slots : Nat} {Z : State} {a0 : Array Value} {h h' : Heap} {a b : Addr} {ws : List Addr} {sl : Nat} {v : Value} {vs : List Int32}
def own_IA (Z : State) (h : Heap) (a : Addr) (vs : List Int32) : Prop := ∃ c : Cell, Arr Z h a c .int ∧ c.slots.toList = vs.map Value.int ∧ vs.length < 2147483648
theorem own_IA.lt (F : own_IA Z h a vs) : a < h.size := by obtain ⟨c, A, -⟩ := F; exact A.lt
theorem own_IA.arr (F : own_IA Z h a vs) : ∃ c, Arr Z h a c .int := by obtain ⟨c, A, -⟩ := F; exact ⟨c, A⟩
theorem own_IA.ext (F : own_IA Z h a vs) (E : Ext h h') : own_IA Z h' a vs := by obtain ⟨c, A, r⟩ := F; exact ⟨c, A.ext E, r⟩
theorem own_IA.other (F : own_IA Z h b vs) (W : Wr h h' a sl v) (q : b ≠ a) : own_IA Z h' b vs := by obtain ⟨c, A, r⟩ := F; exact ⟨c, A.other W q, r⟩
theorem own_IA.keep (F : own_IA Z h a vs) (K : Keep h h' ws) (q : a ∉ ws) : own_IA Z h' a vs := by obtain ⟨c, A, r⟩ := F; exact ⟨c, ⟨K.2.1 a c A.1 q, A.2⟩, r⟩
theorem own_IA.cong {vs' : List Int32} (F : own_IA Z h a vs) (q : vs = vs') : own_IA Z h a vs' := q ▸ F
theorem own_IA.small (F : own_IA Z h a vs) : vs.length < 2147483648 := by obtain ⟨c, A, q, r⟩ := F; exact r
theorem own_IA.new {k : ClassId} {n : Int32} (A : Arr Z h a (newA k .int n) .int) (q : ¬ n < 0) : own_IA Z h a (List.replicate n.toNatClampNeg 0) := by
  refine ⟨_, A, ?_, ?_⟩
  · simp [newA, defaultValue]
  · rw [List.length_replicate]; exact (back32 q).2
theorem own_IA_in {c : Cell} {j : Int32} (S : c.slots.toList = vs.map Value.int) (hj : ¬ j < 0 ∧ j.toNatClampNeg < vs.length) : ¬ (j < 0 ∨ c.slots.size ≤ j.toNatClampNeg) := by
  have e := congrArg List.length S
  rw [List.length_map, Array.length_toList] at e
  rintro (q | q)
  · exact hj.1 q
  · have := hj.2; omega
/-- the load -/
theorem own_ldIA (X : Stand p l e R s m args below meth c T locs cells slots) (hx : p.tables.exec = Jvm.exec) (hZ : Z.Warmed39 s.vm) (eT : T.heap = h) (A : own_IA Z h a vs) {j : Int32} (hj : ¬ j < 0 ∧ j.toNatClampNeg < vs.length)
    {g : JFrame} (hg : g.method = m) {rest : List Value} (hs : g.stack = .int j :: .ref a :: rest) (hd : decode c.code g.pc = .ok (.iaload, 1)) {target : State}
    (hr : Steps p.tables e below (T.setTop { g with pc := g.pc + 1, stack := Value.int (vs.getD j.toNatClampNeg 0) :: rest }) target) : Steps p.tables e below (T.setTop g) target := by
  obtain ⟨cl, Ar, S, -⟩ := A
  refine X.iaload hx (j := j) (v := Value.int (vs.getD j.toNatClampNeg 0)) (by rw [eT]; exact Ar.1) (State.isArrayOf_alike hZ.alike Ar.2.1) Ar.2.2 (own_IA_in S hj) ?_ (g := g) hg hs hd _ hr
  rw [← Array.getElem?_toList, S, List.getElem?_map, List.getD_eq_getElem?_getD, List.getElem?_eq_getElem hj.2]
  rfl
/-- the length -/
theorem own_lenIA (X : Stand p l e R s m args below meth c T locs cells slots) (hx : p.tables.exec = Jvm.exec) (hZ : Z.Warmed39 s.vm) (eT : T.heap = h) (A : own_IA Z h a vs)
    {g : JFrame} (hg : g.method = m) {rest : List Value} (hs : g.stack = .ref a :: rest) (hd : decode c.code g.pc = .ok (.arraylength, 1)) {target : State}
    (hr : Steps p.tables e below (T.setTop { g with pc := g.pc + 1, stack := .int (Int32.ofNat vs.length) :: rest }) target) : Steps p.tables e below (T.setTop g) target := by
  obtain ⟨cl, Ar, S, -⟩ := A
  refine X.arraylength hx (by rw [eT]; exact Ar.1) (State.isArrayOf_alike hZ.alike Ar.2.1) (g := g) hg hs hd _ ?_
  have e := congrArg List.length S
  rw [List.length_map, Array.length_toList] at e
  rw [e]; exact hr
/-- the store -/
theorem own_stIA (X : Stand p l e R s m args below meth c T locs cells slots) (hx : p.tables.exec = Jvm.exec) (hZ : Z.Warmed39 s.vm) (eT : T.heap = h) (A : own_IA Z h a vs) {j : Int32} {x : Int32} (hj : ¬ j < 0 ∧ j.toNatClampNeg < vs.length)
    {g : JFrame} (hg : g.method = m) {rest : List Value} (hs : g.stack = Value.int x :: .int j :: .ref a :: rest) (hd : decode c.code g.pc = .ok (.iastore, 1)) :
    ∃ T' h', Stand p l e R s m args below meth c T' (locs ++ [⟨a, j.toNatClampNeg⟩]) cells slots ∧ T'.heap = h' ∧ Wr h h' a j.toNatClampNeg (Value.int x) ∧ own_IA Z h' a (vs.set j.toNatClampNeg x) ∧
      ∀ target, Steps p.tables e below (T'.setTop { g with pc := g.pc + 1, stack := rest }) target → Steps p.tables e below (T.setTop g) target := by
  obtain ⟨cl, Ar, S, B⟩ := A
  obtain ⟨T', h', X', e', W', st'⟩ := stI X hx hZ eT Ar (own_IA_in S hj) (g := g) hg hs hd
  refine ⟨T', h', X', e', W', ⟨_, Ar.same W', ?_, ?_⟩, st'⟩
  · simp [Cell.setSlot, S]
  · rw [List.length_set]; exact B
theorem own_ldIAn (X : Stand p l e R s m args below meth c T locs cells slots) (hx : p.tables.exec = Jvm.exec) (hZ : Z.Warmed39 s.vm) (eT : T.heap = h) (A : own_IA Z h a vs) {i : Nat} (hi : i < vs.length)
    {g : JFrame} (hg : g.method = m) {rest : List Value} (hs : g.stack = .int (Int32.ofNat i) :: .ref a :: rest) (hd : decode c.code g.pc = .ok (.iaload, 1)) {target : State}
    (hr : Steps p.tables e below (T.setTop { g with pc := g.pc + 1, stack := Value.int (vs.getD i 0) :: rest }) target) : Steps p.tables e below (T.setTop g) target := by
  have q := A.small
  refine own_ldIA X hx hZ eT A (own_inN hi q) hg hs hd ?_
  rw [own_toN (Nat.lt_trans hi q)]; exact hr
theorem own_stIAn (X : Stand p l e R s m args below meth c T locs cells slots) (hx : p.tables.exec = Jvm.exec) (hZ : Z.Warmed39 s.vm) (eT : T.heap = h) (A : own_IA Z h a vs) {i : Nat} {x : Int32} (hi : i < vs.length)
    {g : JFrame} (hg : g.method = m) {rest : List Value} (hs : g.stack = Value.int x :: .int (Int32.ofNat i) :: .ref a :: rest) (hd : decode c.code g.pc = .ok (.iastore, 1)) :
    ∃ T' h', Stand p l e R s m args below meth c T' (locs ++ [⟨a, i⟩]) cells slots ∧ T'.heap = h' ∧ Wr h h' a i (Value.int x) ∧ own_IA Z h' a (vs.set i x) ∧
      ∀ target, Steps p.tables e below (T'.setTop { g with pc := g.pc + 1, stack := rest }) target → Steps p.tables e below (T.setTop g) target := by
  have q := A.small
  have r := own_stIA X hx hZ eT A (x := x) (own_inN hi q) hg hs hd
  rw [own_toN (Nat.lt_trans hi q)] at r
  exact r
/-- a new one -/
theorem own_newIA (X : Stand p l e R s m args below meth c T locs cells slots) (hx : p.tables.exec = Jvm.exec) (hZ : Z.Warmed39 s.vm) (w : (Jvm.Cond.arrayClass .int).before a0 Z = true) (eT : T.heap = h) {g : JFrame} (hg : g.method = m) (hd : decode c.code g.pc = .ok (.newarray .int, 2)) {n : Int32} {rest : List Value} (hs : g.stack = .int n :: rest)
    (hn : ¬ n < 0) {cap : Nat} (hcap : n.toNatClampNeg ≤ cap) (hb : cap * 8 ≤ 536870912) (hc : cells + 1 ≤ R.cells) (hl : slots + cap ≤ R.slots) :
    ∃ T' h', Stand p l e R s m args below meth c T' locs (cells + 1) (slots + cap) ∧ T'.heap = h' ∧ Ext h h' ∧ own_IA Z h' h.size (List.replicate n.toNatClampNeg 0) ∧ Exa Z h' h.size "[I" ∧
      ∀ target, Steps p.tables e below (T'.setTop { g with pc := g.pc + 2, stack := .ref h.size :: rest }) target → Steps p.tables e below (T.setTop g) target := by
  obtain ⟨T', h', k, X', e', E', A', F', st'⟩ := newPE X hx hZ (aty := .int) w eT hg hd hs hn hcap hb hc hl (ad := "[I") (by decide)
  exact ⟨T', h', X', e', E', own_IA.new A' hn, F', st'⟩
end OwnIA

def own_min (p1 : Int64) (p2 : Int64) : Int64 := if p2 < p1 then p2 else p1
def Q_rm1 (Z : State) (p1 : Int64) (p2 : Int64) (h0 : Heap) (n0 : Nat) (v : Option Value) (h : Heap) (L : List Loc) : Prop := v = some (.long (own_min p1 p2)) ∧ Fr n0 L ∧ h = h0
theorem d1_0 : decode jdk_29_method_70_code 0 = .ok (.lload_n 0, 1) := by decide +kernel
theorem d1_1 : decode jdk_29_method_70_code 1 = .ok (.lload_n 2, 1) := by decide +kernel
theorem d1_2 : decode jdk_29_method_70_code 2 = .ok (.lcmp, 1) := by decide +kernel
theorem d1_3 : decode jdk_29_method_70_code 3 = .ok (.ifCond .gt 7, 3) := by decide +kernel
theorem d1_6 : decode jdk_29_method_70_code 6 = .ok (.lload_n 0, 1) := by decide +kernel
theorem d1_7 : decode jdk_29_method_70_code 7 = .ok (.goto 4, 3) := by decide +kernel
theorem d1_10 : decode jdk_29_method_70_code 10 = .ok (.lload_n 2, 1) := by decide +kernel
theorem d1_11 : decode jdk_29_method_70_code 11 = .ok (.lreturn, 1) := by decide +kernel
set_option maxRecDepth 65536 in
set_option maxHeartbeats 40000000 in
theorem rm1 (l : Launch) (Z : State) (a0 : Array Value) (hw : ∀ d ∈ tables_1, d.before a0 Z = true) (ws : List Jvm.Cond) (p1 : Int64) (p2 : Int64) (h0 : Heap) (n0 : Nat) (Z0 : n0 ≤ h0.size)  :
    MetFree l (⟨"java/lang/Math", "min", "(JJ)J"⟩ : MethodName) (head1 (Jvm.Cond.code (⟨"java/lang/Math", "min", "(JJ)J"⟩ : MethodName) jdk_29_method_70_code 4 (some .long) :: ws) ({ frames := 0, cells := 0, slots := 0, locals := 0 } : Room)) (fun aa U => aa = #[(.long p1), (.long p2)] ∧ Z.Warmed39 U.vm ∧ U.heap = h0) (fun _ _ _ _ _ => True) (fun _ U o U' => ∃ v L, o = .returned v ∧ Q_rm1 Z p1 p2 h0 n0 v U'.heap L ∧ FrameEnd U o U' L ({ frames := 0, cells := 0, slots := 0, locals := 0 } : Room).cells ({ frames := 0, cells := 0, slots := 0, locals := 0 } : Room).slots) := by
  refine MetFree.of_bodySF (Jvm.Free.JP.mathPlain rfl (by decide +kernel)) hisR ?_
  intro p e s m args below meth c s₁ Bd hml0 hP hK
  obtain ⟨rfl, hZ, hh⟩ := hP
  have hx := Bd.exec
  have hby := Bd.bytes
  have hml : c.maxLocals = 4 := hml0
  have hlk : meth.locks = false := BodyLoose.notSynchronized Bd
  have hown : s.vm.findClass "java/lang/Math" = some m.cls := findClass_of_methodNamed Bd.named
  have hnm := (name_of_methodNamed Bd.named Bd.method).1
  have X0 : Stand p l e ({ frames := 0, cells := 0, slots := 0, locals := 0 } : Room) s m #[(.long p1), (.long p2)] below meth c s₁ [] 0 0 := Stand.of_body Bd
  have e0 : s₁.heap = h0 := by rw [← hh, Bd.state]; rfl
  have N0 := Fr.nil n0
  show own_Go p e below s (Q_rm1 Z p1 p2 h0 n0) 0 0 (s₁.setTop (entryFrame m #[(.long p1), (.long p2)] 4))
  refine own_go (B := s₁.setTop (mkF m 0 #[.val (.long p1), .second, .val (.long p2), .second] [])) (fun tgt cont => (XT.entry rfl).trans cont) ?_
  refine own_go (B := s₁.setTop (mkF m 3 #[.val (.long p1), .second, .val (.long p2), .second] [(.int (XT.cmpL p1 p2))])) (fun tgt cont => ?_) ?_
  · refine XS.lloadN X0.here hx rfl (hb hby d1_0) rfl ?_
    refine XS.lloadN X0.here hx rfl (hb hby d1_1) rfl ?_
    refine XT.lcmp X0.here hx rfl (hb hby d1_2) rfl ?_
    exact cont
  by_cases hc1 : p2 < p1
  ·
    refine own_go (B := s₁.setTop (mkF m 11 #[.val (.long p1), .second, .val (.long p2), .second] [(.long p2)])) (fun tgt cont => ?_) ?_
    · refine XS.ifYes X0.here hx rfl (pc0 := 3) (pc' := 10) rfl (hb hby d1_3) rfl (XT.ll_gt_t hc1) (by decide) (by decide) ?_
      refine XS.lloadN X0.here hx rfl (hb hby d1_10) rfl ?_
      exact cont
    refine own_end X0 (v := some (.long p2)) (fun h => by rw [Bd.returns] at h; cases h) hlk ?_ (by decide) (by decide) (fun fs hl => retOut X0 hx Bd.returns rfl (Or.inr (Or.inl ⟨rfl, rfl, _, rfl⟩)) (hb hby d1_11) hl)
    exact ⟨(by unfold own_min; first | exact rfl | (simp only [if_pos hc1]; first | done | exact rfl)), N0, e0⟩
  ·
    refine own_go (B := s₁.setTop (mkF m 11 #[.val (.long p1), .second, .val (.long p2), .second] [(.long p1)])) (fun tgt cont => ?_) ?_
    · refine XS.ifNo X0.here hx rfl (hb hby d1_3) rfl (XT.ll_gt_f hc1) ?_
      refine XS.lloadN X0.here hx rfl (hb hby d1_6) rfl ?_
      refine XS.goto X0.here hx rfl (pc0 := 7) (pc' := 11) rfl (hb hby d1_7) (by decide) (by decide) ?_
      exact cont
    refine own_end X0 (v := some (.long p1)) (fun h => by rw [Bd.returns] at h; cases h) hlk ?_ (by decide) (by decide) (fun fs hl => retOut X0 hx Bd.returns rfl (Or.inr (Or.inl ⟨rfl, rfl, _, rfl⟩)) (hb hby d1_11) hl)
    exact ⟨(by unfold own_min; first | exact rfl | (simp only [if_neg hc1]; first | done | exact rfl)), N0, e0⟩
def own_pick (p1 w0 w1 w2 w3 w4 : Int32) : List Int32 := (if (p1 &&& (1 : Int32)) = 0 then [] else [w0]) ++ (if (p1 &&& (2 : Int32)) = 0 then [] else [w1]) ++ (if (p1 &&& (4 : Int32)) = 0 then [] else [w2]) ++ (if (p1 &&& (8 : Int32)) = 0 then [] else [w3]) ++ (if (p1 &&& (16 : Int32)) = 0 then [] else [w4])
def Q_rm2 (Z : State) (a : Addr) (p1 : Int32) (w0 : Int32) (w1 : Int32) (w2 : Int32) (w3 : Int32) (w4 : Int32) (h0 : Heap) (n0 : Nat) (v : Option Value) (h : Heap) (L : List Loc) : Prop := ∃ b : Addr, v = some (.ref b) ∧ Fr n0 L ∧ Keep h0 h [] ∧ h0.size ≤ b ∧ own_IA Z h b (own_pick p1 w0 w1 w2 w3 w4) ∧ Exa Z h b "[I"
theorem own_pn0 : plainName "com/example/treebound/treebound/SortedSetsHoldsPinLaw" = true := by first | (simp [plainName, overriddenIn]; done) | decide +kernel
theorem d2_0 : decode method_3_code 0 = .ok (.iconst 5, 1) := by decide +kernel
theorem d2_1 : decode method_3_code 1 = .ok (.newarray .int, 2) := by decide +kernel
theorem d2_3 : decode method_3_code 3 = .ok (.astore_n 2, 1) := by decide +kernel
theorem d2_4 : decode method_3_code 4 = .ok (.iconst 0, 1) := by decide +kernel
theorem d2_5 : decode method_3_code 5 = .ok (.istore_n 3, 1) := by decide +kernel
theorem d2_6 : decode method_3_code 6 = .ok (.iload_n 1, 1) := by decide +kernel
theorem d2_7 : decode method_3_code 7 = .ok (.iconst 1, 1) := by decide +kernel
theorem d2_8 : decode method_3_code 8 = .ok (.iand, 1) := by decide +kernel
theorem d2_9 : decode method_3_code 9 = .ok (.ifCond .eq 12, 3) := by decide +kernel
theorem d2_12 : decode method_3_code 12 = .ok (.aload_n 2, 1) := by decide +kernel
theorem d2_13 : decode method_3_code 13 = .ok (.iload_n 3, 1) := by decide +kernel
theorem d2_14 : decode method_3_code 14 = .ok (.aload_n 0, 1) := by decide +kernel
theorem d2_15 : decode method_3_code 15 = .ok (.iconst 0, 1) := by decide +kernel
theorem d2_16 : decode method_3_code 16 = .ok (.iaload, 1) := by decide +kernel
theorem d2_17 : decode method_3_code 17 = .ok (.iastore, 1) := by decide +kernel
theorem d2_18 : decode method_3_code 18 = .ok (.iinc 3 1, 3) := by decide +kernel
theorem d2_21 : decode method_3_code 21 = .ok (.iload_n 1, 1) := by decide +kernel
theorem d2_22 : decode method_3_code 22 = .ok (.iconst 2, 1) := by decide +kernel
theorem d2_23 : decode method_3_code 23 = .ok (.iand, 1) := by decide +kernel
theorem d2_24 : decode method_3_code 24 = .ok (.ifCond .eq 12, 3) := by decide +kernel
theorem d2_27 : decode method_3_code 27 = .ok (.aload_n 2, 1) := by decide +kernel
theorem d2_28 : decode method_3_code 28 = .ok (.iload_n 3, 1) := by decide +kernel
theorem d2_29 : decode method_3_code 29 = .ok (.aload_n 0, 1) := by decide +kernel
theorem d2_30 : decode method_3_code 30 = .ok (.iconst 1, 1) := by decide +kernel
theorem d2_31 : decode method_3_code 31 = .ok (.iaload, 1) := by decide +kernel
theorem d2_32 : decode method_3_code 32 = .ok (.iastore, 1) := by decide +kernel
theorem d2_33 : decode method_3_code 33 = .ok (.iinc 3 1, 3) := by decide +kernel
theorem d2_36 : decode method_3_code 36 = .ok (.iload_n 1, 1) := by decide +kernel
theorem d2_37 : decode method_3_code 37 = .ok (.iconst 4, 1) := by decide +kernel
theorem d2_38 : decode method_3_code 38 = .ok (.iand, 1) := by decide +kernel
theorem d2_39 : decode method_3_code 39 = .ok (.ifCond .eq 12, 3) := by decide +kernel
theorem d2_42 : decode method_3_code 42 = .ok (.aload_n 2, 1) := by decide +kernel
theorem d2_43 : decode method_3_code 43 = .ok (.iload_n 3, 1) := by decide +kernel
theorem d2_44 : decode method_3_code 44 = .ok (.aload_n 0, 1) := by decide +kernel
theorem d2_45 : decode method_3_code 45 = .ok (.iconst 2, 1) := by decide +kernel
theorem d2_46 : decode method_3_code 46 = .ok (.iaload, 1) := by decide +kernel
theorem d2_47 : decode method_3_code 47 = .ok (.iastore, 1) := by decide +kernel
theorem d2_48 : decode method_3_code 48 = .ok (.iinc 3 1, 3) := by decide +kernel
theorem d2_51 : decode method_3_code 51 = .ok (.iload_n 1, 1) := by decide +kernel
theorem d2_52 : decode method_3_code 52 = .ok (.bipush 8, 2) := by decide +kernel
theorem d2_54 : decode method_3_code 54 = .ok (.iand, 1) := by decide +kernel
theorem d2_55 : decode method_3_code 55 = .ok (.ifCond .eq 12, 3) := by decide +kernel
theorem d2_58 : decode method_3_code 58 = .ok (.aload_n 2, 1) := by decide +kernel
theorem d2_59 : decode method_3_code 59 = .ok (.iload_n 3, 1) := by decide +kernel
theorem d2_60 : decode method_3_code 60 = .ok (.aload_n 0, 1) := by decide +kernel
theorem d2_61 : decode method_3_code 61 = .ok (.iconst 3, 1) := by decide +kernel
theorem d2_62 : decode method_3_code 62 = .ok (.iaload, 1) := by decide +kernel
theorem d2_63 : decode method_3_code 63 = .ok (.iastore, 1) := by decide +kernel
theorem d2_64 : decode method_3_code 64 = .ok (.iinc 3 1, 3) := by decide +kernel
theorem d2_67 : decode method_3_code 67 = .ok (.iload_n 1, 1) := by decide +kernel
theorem d2_68 : decode method_3_code 68 = .ok (.bipush 16, 2) := by decide +kernel
theorem d2_70 : decode method_3_code 70 = .ok (.iand, 1) := by decide +kernel
theorem d2_71 : decode method_3_code 71 = .ok (.ifCond .eq 12, 3) := by decide +kernel
theorem d2_74 : decode method_3_code 74 = .ok (.aload_n 2, 1) := by decide +kernel
theorem d2_75 : decode method_3_code 75 = .ok (.iload_n 3, 1) := by decide +kernel
theorem d2_76 : decode method_3_code 76 = .ok (.aload_n 0, 1) := by decide +kernel
theorem d2_77 : decode method_3_code 77 = .ok (.iconst 4, 1) := by decide +kernel
theorem d2_78 : decode method_3_code 78 = .ok (.iaload, 1) := by decide +kernel
theorem d2_79 : decode method_3_code 79 = .ok (.iastore, 1) := by decide +kernel
theorem d2_80 : decode method_3_code 80 = .ok (.iinc 3 1, 3) := by decide +kernel
theorem d2_83 : decode method_3_code 83 = .ok (.iload_n 3, 1) := by decide +kernel
theorem d2_84 : decode method_3_code 84 = .ok (.ifCond .ne 7, 3) := by decide +kernel
theorem d2_87 : decode method_3_code 87 = .ok (.iconst 0, 1) := by decide +kernel
theorem d2_88 : decode method_3_code 88 = .ok (.newarray .int, 2) := by decide +kernel
theorem d2_90 : decode method_3_code 90 = .ok (.areturn, 1) := by decide +kernel
theorem d2_91 : decode method_3_code 91 = .ok (.iload_n 3, 1) := by decide +kernel
theorem d2_92 : decode method_3_code 92 = .ok (.iconst 1, 1) := by decide +kernel
theorem d2_93 : decode method_3_code 93 = .ok (.if_icmp .ne 13, 3) := by decide +kernel
theorem d2_96 : decode method_3_code 96 = .ok (.iconst 1, 1) := by decide +kernel
theorem d2_97 : decode method_3_code 97 = .ok (.newarray .int, 2) := by decide +kernel
theorem d2_99 : decode method_3_code 99 = .ok (.dup, 1) := by decide +kernel
theorem d2_100 : decode method_3_code 100 = .ok (.iconst 0, 1) := by decide +kernel
theorem d2_101 : decode method_3_code 101 = .ok (.aload_n 2, 1) := by decide +kernel
theorem d2_102 : decode method_3_code 102 = .ok (.iconst 0, 1) := by decide +kernel
theorem d2_103 : decode method_3_code 103 = .ok (.iaload, 1) := by decide +kernel
theorem d2_104 : decode method_3_code 104 = .ok (.iastore, 1) := by decide +kernel
theorem d2_105 : decode method_3_code 105 = .ok (.areturn, 1) := by decide +kernel
theorem d2_106 : decode method_3_code 106 = .ok (.iload_n 3, 1) := by decide +kernel
theorem d2_107 : decode method_3_code 107 = .ok (.iconst 2, 1) := by decide +kernel
theorem d2_108 : decode method_3_code 108 = .ok (.if_icmp .ne 19, 3) := by decide +kernel
theorem d2_111 : decode method_3_code 111 = .ok (.iconst 2, 1) := by decide +kernel
theorem d2_112 : decode method_3_code 112 = .ok (.newarray .int, 2) := by decide +kernel
theorem d2_114 : decode method_3_code 114 = .ok (.dup, 1) := by decide +kernel
theorem d2_115 : decode method_3_code 115 = .ok (.iconst 0, 1) := by decide +kernel
theorem d2_116 : decode method_3_code 116 = .ok (.aload_n 2, 1) := by decide +kernel
theorem d2_117 : decode method_3_code 117 = .ok (.iconst 0, 1) := by decide +kernel
theorem d2_118 : decode method_3_code 118 = .ok (.iaload, 1) := by decide +kernel
theorem d2_119 : decode method_3_code 119 = .ok (.iastore, 1) := by decide +kernel
theorem d2_120 : decode method_3_code 120 = .ok (.dup, 1) := by decide +kernel
theorem d2_121 : decode method_3_code 121 = .ok (.iconst 1, 1) := by decide +kernel
theorem d2_122 : decode method_3_code 122 = .ok (.aload_n 2, 1) := by decide +kernel
theorem d2_123 : decode method_3_code 123 = .ok (.iconst 1, 1) := by decide +kernel
theorem d2_124 : decode method_3_code 124 = .ok (.iaload, 1) := by decide +kernel
theorem d2_125 : decode method_3_code 125 = .ok (.iastore, 1) := by decide +kernel
theorem d2_126 : decode method_3_code 126 = .ok (.areturn, 1) := by decide +kernel
theorem d2_127 : decode method_3_code 127 = .ok (.iload_n 3, 1) := by decide +kernel
theorem d2_128 : decode method_3_code 128 = .ok (.iconst 3, 1) := by decide +kernel
theorem d2_129 : decode method_3_code 129 = .ok (.if_icmp .ne 25, 3) := by decide +kernel
theorem d2_132 : decode method_3_code 132 = .ok (.iconst 3, 1) := by decide +kernel
theorem d2_133 : decode method_3_code 133 = .ok (.newarray .int, 2) := by decide +kernel
theorem d2_135 : decode method_3_code 135 = .ok (.dup, 1) := by decide +kernel
theorem d2_136 : decode method_3_code 136 = .ok (.iconst 0, 1) := by decide +kernel
theorem d2_137 : decode method_3_code 137 = .ok (.aload_n 2, 1) := by decide +kernel
theorem d2_138 : decode method_3_code 138 = .ok (.iconst 0, 1) := by decide +kernel
theorem d2_139 : decode method_3_code 139 = .ok (.iaload, 1) := by decide +kernel
theorem d2_140 : decode method_3_code 140 = .ok (.iastore, 1) := by decide +kernel
theorem d2_141 : decode method_3_code 141 = .ok (.dup, 1) := by decide +kernel
theorem d2_142 : decode method_3_code 142 = .ok (.iconst 1, 1) := by decide +kernel
theorem d2_143 : decode method_3_code 143 = .ok (.aload_n 2, 1) := by decide +kernel
theorem d2_144 : decode method_3_code 144 = .ok (.iconst 1, 1) := by decide +kernel
theorem d2_145 : decode method_3_code 145 = .ok (.iaload, 1) := by decide +kernel
theorem d2_146 : decode method_3_code 146 = .ok (.iastore, 1) := by decide +kernel
theorem d2_147 : decode method_3_code 147 = .ok (.dup, 1) := by decide +kernel
theorem d2_148 : decode method_3_code 148 = .ok (.iconst 2, 1) := by decide +kernel
theorem d2_149 : decode method_3_code 149 = .ok (.aload_n 2, 1) := by decide +kernel
theorem d2_150 : decode method_3_code 150 = .ok (.iconst 2, 1) := by decide +kernel
theorem d2_151 : decode method_3_code 151 = .ok (.iaload, 1) := by decide +kernel
theorem d2_152 : decode method_3_code 152 = .ok (.iastore, 1) := by decide +kernel
theorem d2_153 : decode method_3_code 153 = .ok (.areturn, 1) := by decide +kernel
theorem d2_154 : decode method_3_code 154 = .ok (.iload_n 3, 1) := by decide +kernel
theorem d2_155 : decode method_3_code 155 = .ok (.iconst 4, 1) := by decide +kernel
theorem d2_156 : decode method_3_code 156 = .ok (.if_icmp .ne 31, 3) := by decide +kernel
theorem d2_159 : decode method_3_code 159 = .ok (.iconst 4, 1) := by decide +kernel
theorem d2_160 : decode method_3_code 160 = .ok (.newarray .int, 2) := by decide +kernel
theorem d2_162 : decode method_3_code 162 = .ok (.dup, 1) := by decide +kernel
theorem d2_163 : decode method_3_code 163 = .ok (.iconst 0, 1) := by decide +kernel
theorem d2_164 : decode method_3_code 164 = .ok (.aload_n 2, 1) := by decide +kernel
theorem d2_165 : decode method_3_code 165 = .ok (.iconst 0, 1) := by decide +kernel
theorem d2_166 : decode method_3_code 166 = .ok (.iaload, 1) := by decide +kernel
theorem d2_167 : decode method_3_code 167 = .ok (.iastore, 1) := by decide +kernel
theorem d2_168 : decode method_3_code 168 = .ok (.dup, 1) := by decide +kernel
theorem d2_169 : decode method_3_code 169 = .ok (.iconst 1, 1) := by decide +kernel
theorem d2_170 : decode method_3_code 170 = .ok (.aload_n 2, 1) := by decide +kernel
theorem d2_171 : decode method_3_code 171 = .ok (.iconst 1, 1) := by decide +kernel
theorem d2_172 : decode method_3_code 172 = .ok (.iaload, 1) := by decide +kernel
theorem d2_173 : decode method_3_code 173 = .ok (.iastore, 1) := by decide +kernel
theorem d2_174 : decode method_3_code 174 = .ok (.dup, 1) := by decide +kernel
theorem d2_175 : decode method_3_code 175 = .ok (.iconst 2, 1) := by decide +kernel
theorem d2_176 : decode method_3_code 176 = .ok (.aload_n 2, 1) := by decide +kernel
theorem d2_177 : decode method_3_code 177 = .ok (.iconst 2, 1) := by decide +kernel
theorem d2_178 : decode method_3_code 178 = .ok (.iaload, 1) := by decide +kernel
theorem d2_179 : decode method_3_code 179 = .ok (.iastore, 1) := by decide +kernel
theorem d2_180 : decode method_3_code 180 = .ok (.dup, 1) := by decide +kernel
theorem d2_181 : decode method_3_code 181 = .ok (.iconst 3, 1) := by decide +kernel
theorem d2_182 : decode method_3_code 182 = .ok (.aload_n 2, 1) := by decide +kernel
theorem d2_183 : decode method_3_code 183 = .ok (.iconst 3, 1) := by decide +kernel
theorem d2_184 : decode method_3_code 184 = .ok (.iaload, 1) := by decide +kernel
theorem d2_185 : decode method_3_code 185 = .ok (.iastore, 1) := by decide +kernel
theorem d2_186 : decode method_3_code 186 = .ok (.areturn, 1) := by decide +kernel
theorem d2_187 : decode method_3_code 187 = .ok (.iconst 5, 1) := by decide +kernel
theorem d2_188 : decode method_3_code 188 = .ok (.newarray .int, 2) := by decide +kernel
theorem d2_190 : decode method_3_code 190 = .ok (.dup, 1) := by decide +kernel
theorem d2_191 : decode method_3_code 191 = .ok (.iconst 0, 1) := by decide +kernel
theorem d2_192 : decode method_3_code 192 = .ok (.aload_n 2, 1) := by decide +kernel
theorem d2_193 : decode method_3_code 193 = .ok (.iconst 0, 1) := by decide +kernel
theorem d2_194 : decode method_3_code 194 = .ok (.iaload, 1) := by decide +kernel
theorem d2_195 : decode method_3_code 195 = .ok (.iastore, 1) := by decide +kernel
theorem d2_196 : decode method_3_code 196 = .ok (.dup, 1) := by decide +kernel
theorem d2_197 : decode method_3_code 197 = .ok (.iconst 1, 1) := by decide +kernel
theorem d2_198 : decode method_3_code 198 = .ok (.aload_n 2, 1) := by decide +kernel
theorem d2_199 : decode method_3_code 199 = .ok (.iconst 1, 1) := by decide +kernel
theorem d2_200 : decode method_3_code 200 = .ok (.iaload, 1) := by decide +kernel
theorem d2_201 : decode method_3_code 201 = .ok (.iastore, 1) := by decide +kernel
theorem d2_202 : decode method_3_code 202 = .ok (.dup, 1) := by decide +kernel
theorem d2_203 : decode method_3_code 203 = .ok (.iconst 2, 1) := by decide +kernel
theorem d2_204 : decode method_3_code 204 = .ok (.aload_n 2, 1) := by decide +kernel
theorem d2_205 : decode method_3_code 205 = .ok (.iconst 2, 1) := by decide +kernel
theorem d2_206 : decode method_3_code 206 = .ok (.iaload, 1) := by decide +kernel
theorem d2_207 : decode method_3_code 207 = .ok (.iastore, 1) := by decide +kernel
theorem d2_208 : decode method_3_code 208 = .ok (.dup, 1) := by decide +kernel
theorem d2_209 : decode method_3_code 209 = .ok (.iconst 3, 1) := by decide +kernel
theorem d2_210 : decode method_3_code 210 = .ok (.aload_n 2, 1) := by decide +kernel
theorem d2_211 : decode method_3_code 211 = .ok (.iconst 3, 1) := by decide +kernel
theorem d2_212 : decode method_3_code 212 = .ok (.iaload, 1) := by decide +kernel
theorem d2_213 : decode method_3_code 213 = .ok (.iastore, 1) := by decide +kernel
theorem d2_214 : decode method_3_code 214 = .ok (.dup, 1) := by decide +kernel
theorem d2_215 : decode method_3_code 215 = .ok (.iconst 4, 1) := by decide +kernel
theorem d2_216 : decode method_3_code 216 = .ok (.aload_n 2, 1) := by decide +kernel
theorem d2_217 : decode method_3_code 217 = .ok (.iconst 4, 1) := by decide +kernel
theorem d2_218 : decode method_3_code 218 = .ok (.iaload, 1) := by decide +kernel
theorem d2_219 : decode method_3_code 219 = .ok (.iastore, 1) := by decide +kernel
theorem d2_220 : decode method_3_code 220 = .ok (.areturn, 1) := by decide +kernel
set_option maxRecDepth 65536 in
set_option maxHeartbeats 40000000 in
theorem rm2 (l : Launch) (Z : State) (a0 : Array Value) (hw : ∀ d ∈ tables_1, d.before a0 Z = true) (ws : List Jvm.Cond) (a : Addr) (p1 : Int32) (w0 : Int32) (w1 : Int32) (w2 : Int32) (w3 : Int32) (w4 : Int32) (h0 : Heap) (n0 : Nat) (Z0 : n0 ≤ h0.size) (A_a : own_IA Z h0 a [w0, w1, w2, w3, w4])  :
    MetFree l (⟨"com/example/treebound/treebound/SortedSetsHoldsPinLaw", "pick", "([II)[I"⟩ : MethodName) (head1 (Jvm.Cond.code (⟨"com/example/treebound/treebound/SortedSetsHoldsPinLaw", "pick", "([II)[I"⟩ : MethodName) method_3_code 4 (some (.array .int)) :: ws) ({ frames := 0, cells := 2, slots := 10, locals := 0 } : Room)) (fun aa U => aa = #[(.ref a), (.int p1)] ∧ Z.Warmed39 U.vm ∧ U.heap = h0) (fun _ _ _ _ _ => True) (fun _ U o U' => ∃ v L, o = .returned v ∧ Q_rm2 Z a p1 w0 w1 w2 w3 w4 h0 n0 v U'.heap L ∧ FrameEnd U o U' L ({ frames := 0, cells := 2, slots := 10, locals := 0 } : Room).cells ({ frames := 0, cells := 2, slots := 10, locals := 0 } : Room).slots) := by
  refine MetFree.of_bodySF (plainFor_of_name own_pn0) hisR ?_
  intro p e s m args below meth c s₁ Bd hml0 hP hK
  obtain ⟨rfl, hZ, hh⟩ := hP
  have hx := Bd.exec
  have hby := Bd.bytes
  have hml : c.maxLocals = 4 := hml0
  have hlk : meth.locks = false := BodyLoose.notSynchronized Bd
  have hown : s.vm.findClass "com/example/treebound/treebound/SortedSetsHoldsPinLaw" = some m.cls := findClass_of_methodNamed Bd.named
  have hnm := (name_of_methodNamed Bd.named Bd.method).1
  have X0 : Stand p l e ({ frames := 0, cells := 2, slots := 10, locals := 0 } : Room) s m #[(.ref a), (.int p1)] below meth c s₁ [] 0 0 := Stand.of_body Bd
  have e0 : s₁.heap = h0 := by rw [← hh, Bd.state]; rfl
  have N0 := Fr.nil n0
  show own_Go p e below s (Q_rm2 Z a p1 w0 w1 w2 w3 w4 h0 n0) 2 10 (s₁.setTop (entryFrame m #[(.ref a), (.int p1)] 4))
  refine own_go (B := s₁.setTop (mkF m 0 #[.val (.ref a), .val (.int p1), .unset, .unset] [])) (fun tgt cont => (XT.entry rfl).trans cont) ?_
  refine own_go (B := s₁.setTop (mkF m 1 #[.val (.ref a), .val (.int p1), .unset, .unset] [(.int (5 : Int32))])) (fun tgt cont => ?_) ?_
  · refine XT.iconstV X0.here hx rfl (5 : Int32) (hb hby d2_0) rfl ?_
    exact cont
  obtain ⟨T1, h1, X1, e1, E1, A1, AE1, st1⟩ := own_newIA X0 hx hZ (hw _ (List.mem_of_getElem? (i := 6) rfl)) e0 (g := (mkF m 1 #[.val (.ref a), .val (.int p1), .unset, .unset] [(.int (5 : Int32))])) rfl (hb hby d2_1) rfl (by decide) (cap := 5) (by decide) (by decide) (by decide) (by decide)
  obtain ⟨b1, g1⟩ : ∃ z, z = h0.size := ⟨_, rfl⟩
  rw [← g1] at A1 AE1 st1
  have g_b1 : n0 ≤ b1 := Nat.le_trans Z0 (Nat.le_of_eq g1.symm)
  have sz_b1 : h0.size ≤ b1 := Nat.le_trans (Keep.refl h0 []).1 (Nat.le_of_eq g1.symm)
  have ne_a_b1 : a ≠ b1 := Nat.ne_of_lt (by rw [g1]; exact A_a.lt)
  have kk1 : Keep h0 h1 [] := (Keep.refl h0 []).ext E1
  have zp1 : n0 ≤ h1.size := Nat.le_trans Z0 kk1.1
  have A1v : own_IA Z h1 b1 [(0 : Int32), (0 : Int32), (0 : Int32), (0 : Int32), (0 : Int32)] := A1
  refine own_go (fun tgt cont => st1 tgt cont) ?_
  show own_Go p e below s (Q_rm2 Z a p1 w0 w1 w2 w3 w4 h0 n0) 2 10 (T1.setTop (mkF m 3 #[.val (.ref a), .val (.int p1), .unset, .unset] [(.ref b1)]))
  refine own_go (B := T1.setTop (mkF m 6 #[.val (.ref a), .val (.int p1), .val (.ref b1), .val (.int (0 : Int32))] [])) (fun tgt cont => ?_) ?_
  · refine XS.astoreN X1.here hx rfl (hb hby d2_3) rfl rfl (l' := #[.val (.ref a), .val (.int p1), .val (.ref b1), .unset]) rfl ?_
    refine XT.iconstV X1.here hx rfl (0 : Int32) (hb hby d2_4) rfl ?_
    refine XS.istoreN X1.here hx rfl (hb hby d2_5) rfl (l' := #[.val (.ref a), .val (.int p1), .val (.ref b1), .val (.int (0 : Int32))]) rfl ?_
    exact cont
  have KP0 : ∀ (T2 : State) (L2 : List Loc) (h2 : Heap)  (X2 : Stand p l e ({ frames := 0, cells := 2, slots := 10, locals := 0 } : Room) s m #[(.ref a), (.int p1)] below meth c T2 L2 1 5) (e2 : T2.heap = h2) (N2 : Fr n0 L2) (kk2 : Keep h0 h2 []) (f2_0 : own_IA Z h2 b1 [(0 : Int32), (0 : Int32), (0 : Int32), (0 : Int32), (0 : Int32)]) (hL0 : (own_pick p1 w0 w1 w2 w3 w4) = []), own_Go p e below s (Q_rm2 Z a p1 w0 w1 w2 w3 w4 h0 n0) 2 10 (T2.setTop (mkF m 83 #[.val (.ref a), .val (.int p1), .val (.ref b1), .val (.int (0 : Int32))] [])) := by
    intro T2 L2 h2  X2 e2 N2 kk2 f2_0 hL0
    have zp2 : n0 ≤ h2.size := Nat.le_trans Z0 kk2.1
    refine own_go (B := T2.setTop (mkF m 88 #[.val (.ref a), .val (.int p1), .val (.ref b1), .val (.int (0 : Int32))] [(.int (0 : Int32))])) (fun tgt cont => ?_) ?_
    · refine XS.iloadN X2.here hx rfl (hb hby d2_83) rfl ?_
      refine XS.ifNo X2.here hx rfl (hb hby d2_84) rfl (XT.i0_ne_f (by decide)) ?_
      refine XT.iconstV X2.here hx rfl (0 : Int32) (hb hby d2_87) rfl ?_
      exact cont
    obtain ⟨T3, h3, X3, e3, E3, A3, AE3, st3⟩ := own_newIA X2 hx hZ (hw _ (List.mem_of_getElem? (i := 6) rfl)) e2 (g := (mkF m 88 #[.val (.ref a), .val (.int p1), .val (.ref b1), .val (.int (0 : Int32))] [(.int (0 : Int32))])) rfl (hb hby d2_88) rfl (by decide) (cap := 0) (by decide) (by decide) (by decide) (by decide)
    obtain ⟨b3, g3⟩ : ∃ z, z = h2.size := ⟨_, rfl⟩
    rw [← g3] at A3 AE3 st3
    have g_b3 : n0 ≤ b3 := Nat.le_trans zp2 (Nat.le_of_eq g3.symm)
    have sz_b3 : h0.size ≤ b3 := Nat.le_trans kk2.1 (Nat.le_of_eq g3.symm)
    have ne_b1_b3 : b1 ≠ b3 := Nat.ne_of_lt (by rw [g3]; exact f2_0.lt)
    have kk3 : Keep h0 h3 [] := kk2.ext E3
    have zp3 : n0 ≤ h3.size := Nat.le_trans Z0 kk3.1
    have A3v : own_IA Z h3 b3 [] := A3
    refine own_go (fun tgt cont => st3 tgt cont) ?_
    show own_Go p e below s (Q_rm2 Z a p1 w0 w1 w2 w3 w4 h0 n0) 2 10 (T3.setTop (mkF m 90 #[.val (.ref a), .val (.int p1), .val (.ref b1), .val (.int (0 : Int32))] [(.ref b3)]))
    refine own_end X3 (v := some (.ref b3)) (fun h => by rw [Bd.returns] at h; cases h) hlk ?_ (by decide) (by decide) (fun fs hl => retOut X3 hx Bd.returns rfl (Or.inr (Or.inr (Or.inr (Or.inr ⟨rfl, rfl, rfl⟩)))) (hb hby d2_90) hl)
    rw [e3]
    exact ⟨_, rfl, N2, kk3, sz_b3, (by rw [hL0]; exact A3v), AE3⟩
  have KP1 : ∀ (T4 : State) (L4 : List Loc) (h4 : Heap) (x0 : Int32) (X4 : Stand p l e ({ frames := 0, cells := 2, slots := 10, locals := 0 } : Room) s m #[(.ref a), (.int p1)] below meth c T4 L4 1 5) (e4 : T4.heap = h4) (N4 : Fr n0 L4) (kk4 : Keep h0 h4 []) (f4_0 : own_IA Z h4 b1 [x0, (0 : Int32), (0 : Int32), (0 : Int32), (0 : Int32)]) (hL1 : (own_pick p1 w0 w1 w2 w3 w4) = [x0]), own_Go p e below s (Q_rm2 Z a p1 w0 w1 w2 w3 w4 h0 n0) 2 10 (T4.setTop (mkF m 83 #[.val (.ref a), .val (.int p1), .val (.ref b1), .val (.int (1 : Int32))] [])) := by
    intro T4 L4 h4 x0 X4 e4 N4 kk4 f4_0 hL1
    have zp4 : n0 ≤ h4.size := Nat.le_trans Z0 kk4.1
    refine own_go (B := T4.setTop (mkF m 97 #[.val (.ref a), .val (.int p1), .val (.ref b1), .val (.int (1 : Int32))] [(.int (1 : Int32))])) (fun tgt cont => ?_) ?_
    · refine XS.iloadN X4.here hx rfl (hb hby d2_83) rfl ?_
      refine XS.ifYes X4.here hx rfl (pc0 := 84) (pc' := 91) rfl (hb hby d2_84) rfl (XT.i0_ne_t (by decide)) (by decide) (by decide) ?_
      refine XS.iloadN X4.here hx rfl (hb hby d2_91) rfl ?_
      refine XT.iconstV X4.here hx rfl (1 : Int32) (hb hby d2_92) rfl ?_
      refine XS.icmpNo X4.here hx rfl (hb hby d2_93) rfl (XT.ii_ne_f (by decide)) ?_
      refine XT.iconstV X4.here hx rfl (1 : Int32) (hb hby d2_96) rfl ?_
      exact cont
    obtain ⟨T5, h5, X5, e5, E5, A5, AE5, st5⟩ := own_newIA X4 hx hZ (hw _ (List.mem_of_getElem? (i := 6) rfl)) e4 (g := (mkF m 97 #[.val (.ref a), .val (.int p1), .val (.ref b1), .val (.int (1 : Int32))] [(.int (1 : Int32))])) rfl (hb hby d2_97) rfl (by decide) (cap := 1) (by decide) (by decide) (by decide) (by decide)
    obtain ⟨b5, g5⟩ : ∃ z, z = h4.size := ⟨_, rfl⟩
    rw [← g5] at A5 AE5 st5
    have g_b5 : n0 ≤ b5 := Nat.le_trans zp4 (Nat.le_of_eq g5.symm)
    have sz_b5 : h0.size ≤ b5 := Nat.le_trans kk4.1 (Nat.le_of_eq g5.symm)
    have ne_b1_b5 : b1 ≠ b5 := Nat.ne_of_lt (by rw [g5]; exact f4_0.lt)
    have kk5 : Keep h0 h5 [] := kk4.ext E5
    have zp5 : n0 ≤ h5.size := Nat.le_trans Z0 kk5.1
    have A5v : own_IA Z h5 b5 [(0 : Int32)] := A5
    refine own_go (fun tgt cont => st5 tgt cont) ?_
    show own_Go p e below s (Q_rm2 Z a p1 w0 w1 w2 w3 w4 h0 n0) 2 10 (T5.setTop (mkF m 99 #[.val (.ref a), .val (.int p1), .val (.ref b1), .val (.int (1 : Int32))] [(.ref b5)]))
    have f6 := (f4_0.ext E5)
    refine own_go (B := T5.setTop (mkF m 104 #[.val (.ref a), .val (.int p1), .val (.ref b1), .val (.int (1 : Int32))] [(.int x0), (.int (0 : Int32)), (.ref b5), (.ref b5)])) (fun tgt cont => ?_) ?_
    · refine XS.dup X5.here hx rfl (hb hby d2_99) rfl rfl ?_
      refine XT.iconstV X5.here hx rfl (0 : Int32) (hb hby d2_100) rfl ?_
      refine XS.aloadN X5.here hx rfl (hb hby d2_101) rfl rfl ?_
      refine XT.iconstV X5.here hx rfl (0 : Int32) (hb hby d2_102) rfl ?_
      refine own_ldIA X5 hx hZ e5 f6 (j := (0 : Int32)) ⟨by decide, Nat.le_of_ble_eq_true rfl⟩ (g := (mkF m 103 #[.val (.ref a), .val (.int p1), .val (.ref b1), .val (.int (1 : Int32))] [(.int (0 : Int32)), (.ref b1), (.int (0 : Int32)), (.ref b5), (.ref b5)])) rfl rfl (hb hby d2_103) ?_
      exact cont
    obtain ⟨T7, h7, X7, e7, W7, A7, st7⟩ := own_stIA X5 hx hZ e5 A5v (j := (0 : Int32)) (x := x0) ⟨by decide, Nat.le_of_ble_eq_true rfl⟩ (g := (mkF m 104 #[.val (.ref a), .val (.int p1), .val (.ref b1), .val (.int (1 : Int32))] [(.int x0), (.int (0 : Int32)), (.ref b5), (.ref b5)])) rfl rfl (hb hby d2_104)
    have N7 := Fr.snoc X7 N4 g_b5
    have kk7 : Keep h0 h7 [] := kk5.wr W7 (Or.inr sz_b5)
    have zp7 : n0 ≤ h7.size := Nat.le_trans Z0 kk7.1
    have A7v : own_IA Z h7 b5 [x0] := A7
    refine own_go (fun tgt cont => st7 tgt cont) ?_
    show own_Go p e below s (Q_rm2 Z a p1 w0 w1 w2 w3 w4 h0 n0) 2 10 (T7.setTop (mkF m 105 #[.val (.ref a), .val (.int p1), .val (.ref b1), .val (.int (1 : Int32))] [(.ref b5)]))
    refine own_end X7 (v := some (.ref b5)) (fun h => by rw [Bd.returns] at h; cases h) hlk ?_ (by decide) (by decide) (fun fs hl => retOut X7 hx Bd.returns rfl (Or.inr (Or.inr (Or.inr (Or.inr ⟨rfl, rfl, rfl⟩)))) (hb hby d2_105) hl)
    have f8 := (AE5.wr W7)
    rw [e7]
    exact ⟨_, rfl, N7, kk7, sz_b5, (by rw [hL1]; exact A7v), f8⟩
  have KP2 : ∀ (T9 : State) (L9 : List Loc) (h9 : Heap) (x0 : Int32) (x1 : Int32) (X9 : Stand p l e ({ frames := 0, cells := 2, slots := 10, locals := 0 } : Room) s m #[(.ref a), (.int p1)] below meth c T9 L9 1 5) (e9 : T9.heap = h9) (N9 : Fr n0 L9) (kk9 : Keep h0 h9 []) (f9_0 : own_IA Z h9 b1 [x0, x1, (0 : Int32), (0 : Int32), (0 : Int32)]) (hL2 : (own_pick p1 w0 w1 w2 w3 w4) = [x0, x1]), own_Go p e below s (Q_rm2 Z a p1 w0 w1 w2 w3 w4 h0 n0) 2 10 (T9.setTop (mkF m 83 #[.val (.ref a), .val (.int p1), .val (.ref b1), .val (.int (2 : Int32))] [])) := by
    intro T9 L9 h9 x0 x1 X9 e9 N9 kk9 f9_0 hL2
    have zp9 : n0 ≤ h9.size := Nat.le_trans Z0 kk9.1
    refine own_go (B := T9.setTop (mkF m 112 #[.val (.ref a), .val (.int p1), .val (.ref b1), .val (.int (2 : Int32))] [(.int (2 : Int32))])) (fun tgt cont => ?_) ?_
    · refine XS.iloadN X9.here hx rfl (hb hby d2_83) rfl ?_
      refine XS.ifYes X9.here hx rfl (pc0 := 84) (pc' := 91) rfl (hb hby d2_84) rfl (XT.i0_ne_t (by decide)) (by decide) (by decide) ?_
      refine XS.iloadN X9.here hx rfl (hb hby d2_91) rfl ?_
      refine XT.iconstV X9.here hx rfl (1 : Int32) (hb hby d2_92) rfl ?_
      refine XS.icmpYes X9.here hx rfl (pc0 := 93) (pc' := 106) rfl (hb hby d2_93) rfl (XT.ii_ne_t (by decide)) (by decide) (by decide) ?_
      refine XS.iloadN X9.here hx rfl (hb hby d2_106) rfl ?_
      refine XT.iconstV X9.here hx rfl (2 : Int32) (hb hby d2_107) rfl ?_
      refine XS.icmpNo X9.here hx rfl (hb hby d2_108) rfl (XT.ii_ne_f (by decide)) ?_
      refine XT.iconstV X9.here hx rfl (2 : Int32) (hb hby d2_111) rfl ?_
      exact cont
    obtain ⟨T10, h10, X10, e10, E10, A10, AE10, st10⟩ := own_newIA X9 hx hZ (hw _ (List.mem_of_getElem? (i := 6) rfl)) e9 (g := (mkF m 112 #[.val (.ref a), .val (.int p1), .val (.ref b1), .val (.int (2 : Int32))] [(.int (2 : Int32))])) rfl (hb hby d2_112) rfl (by decide) (cap := 2) (by decide) (by decide) (by decide) (by decide)
    obtain ⟨b10, g10⟩ : ∃ z, z = h9.size := ⟨_, rfl⟩
    rw [← g10] at A10 AE10 st10
    have g_b10 : n0 ≤ b10 := Nat.le_trans zp9 (Nat.le_of_eq g10.symm)
    have sz_b10 : h0.size ≤ b10 := Nat.le_trans kk9.1 (Nat.le_of_eq g10.symm)
    have ne_b1_b10 : b1 ≠ b10 := Nat.ne_of_lt (by rw [g10]; exact f9_0.lt)
    have kk10 : Keep h0 h10 [] := kk9.ext E10
    have zp10 : n0 ≤ h10.size := Nat.le_trans Z0 kk10.1
    have A10v : own_IA Z h10 b10 [(0 : Int32), (0 : Int32)] := A10
    refine own_go (fun tgt cont => st10 tgt cont) ?_
    show own_Go p e below s (Q_rm2 Z a p1 w0 w1 w2 w3 w4 h0 n0) 2 10 (T10.setTop (mkF m 114 #[.val (.ref a), .val (.int p1), .val (.ref b1), .val (.int (2 : Int32))] [(.ref b10)]))
    have f11 := (f9_0.ext E10)
    refine own_go (B := T10.setTop (mkF m 119 #[.val (.ref a), .val (.int p1), .val (.ref b1), .val (.int (2 : Int32))] [(.int x0), (.int (0 : Int32)), (.ref b10), (.ref b10)])) (fun tgt cont => ?_) ?_
    · refine XS.dup X10.here hx rfl (hb hby d2_114) rfl rfl ?_
      refine XT.iconstV X10.here hx rfl (0 : Int32) (hb hby d2_115) rfl ?_
      refine XS.aloadN X10.here hx rfl (hb hby d2_116) rfl rfl ?_
      refine XT.iconstV X10.here hx rfl (0 : Int32) (hb hby d2_117) rfl ?_
      refine own_ldIA X10 hx hZ e10 f11 (j := (0 : Int32)) ⟨by decide, Nat.le_of_ble_eq_true rfl⟩ (g := (mkF m 118 #[.val (.ref a), .val (.int p1), .val (.ref b1), .val (.int (2 : Int32))] [(.int (0 : Int32)), (.ref b1), (.int (0 : Int32)), (.ref b10), (.ref b10)])) rfl rfl (hb hby d2_118) ?_
      exact cont
    obtain ⟨T12, h12, X12, e12, W12, A12, st12⟩ := own_stIA X10 hx hZ e10 A10v (j := (0 : Int32)) (x := x0) ⟨by decide, Nat.le_of_ble_eq_true rfl⟩ (g := (mkF m 119 #[.val (.ref a), .val (.int p1), .val (.ref b1), .val (.int (2 : Int32))] [(.int x0), (.int (0 : Int32)), (.ref b10), (.ref b10)])) rfl rfl (hb hby d2_119)
    have N12 := Fr.snoc X12 N9 g_b10
    have kk12 : Keep h0 h12 [] := kk10.wr W12 (Or.inr sz_b10)
    have zp12 : n0 ≤ h12.size := Nat.le_trans Z0 kk12.1
    have A12v : own_IA Z h12 b10 [x0, (0 : Int32)] := A12
    refine own_go (fun tgt cont => st12 tgt cont) ?_
    show own_Go p e below s (Q_rm2 Z a p1 w0 w1 w2 w3 w4 h0 n0) 2 10 (T12.setTop (mkF m 120 #[.val (.ref a), .val (.int p1), .val (.ref b1), .val (.int (2 : Int32))] [(.ref b10)]))
    have f13 := (f11.other W12 ne_b1_b10)
    refine own_go (B := T12.setTop (mkF m 125 #[.val (.ref a), .val (.int p1), .val (.ref b1), .val (.int (2 : Int32))] [(.int x1), (.int (1 : Int32)), (.ref b10), (.ref b10)])) (fun tgt cont => ?_) ?_
    · refine XS.dup X12.here hx rfl (hb hby d2_120) rfl rfl ?_
      refine XT.iconstV X12.here hx rfl (1 : Int32) (hb hby d2_121) rfl ?_
      refine XS.aloadN X12.here hx rfl (hb hby d2_122) rfl rfl ?_
      refine XT.iconstV X12.here hx rfl (1 : Int32) (hb hby d2_123) rfl ?_
      refine own_ldIA X12 hx hZ e12 f13 (j := (1 : Int32)) ⟨by decide, Nat.le_of_ble_eq_true rfl⟩ (g := (mkF m 124 #[.val (.ref a), .val (.int p1), .val (.ref b1), .val (.int (2 : Int32))] [(.int (1 : Int32)), (.ref b1), (.int (1 : Int32)), (.ref b10), (.ref b10)])) rfl rfl (hb hby d2_124) ?_
      exact cont
    obtain ⟨T14, h14, X14, e14, W14, A14, st14⟩ := own_stIA X12 hx hZ e12 A12v (j := (1 : Int32)) (x := x1) ⟨by decide, Nat.le_of_ble_eq_true rfl⟩ (g := (mkF m 125 #[.val (.ref a), .val (.int p1), .val (.ref b1), .val (.int (2 : Int32))] [(.int x1), (.int (1 : Int32)), (.ref b10), (.ref b10)])) rfl rfl (hb hby d2_125)
    have N14 := Fr.snoc X14 N12 g_b10
    have kk14 : Keep h0 h14 [] := kk12.wr W14 (Or.inr sz_b10)
    have zp14 : n0 ≤ h14.size := Nat.le_trans Z0 kk14.1
    have A14v : own_IA Z h14 b10 [x0, x1] := A14
    refine own_go (fun tgt cont => st14 tgt cont) ?_
    show own_Go p e below s (Q_rm2 Z a p1 w0 w1 w2 w3 w4 h0 n0) 2 10 (T14.setTop (mkF m 126 #[.val (.ref a), .val (.int p1), .val (.ref b1), .val (.int (2 : Int32))] [(.ref b10)]))
    refine own_end X14 (v := some (.ref b10)) (fun h => by rw [Bd.returns] at h; cases h) hlk ?_ (by decide) (by decide) (fun fs hl => retOut X14 hx Bd.returns rfl (Or.inr (Or.inr (Or.inr (Or.inr ⟨rfl, rfl, rfl⟩)))) (hb hby d2_126) hl)
    have f15 := ((AE10.wr W12).wr W14)
    rw [e14]
    exact ⟨_, rfl, N14, kk14, sz_b10, (by rw [hL2]; exact A14v), f15⟩
  have KP3 : ∀ (T16 : State) (L16 : List Loc) (h16 : Heap) (x0 : Int32) (x1 : Int32) (x2 : Int32) (X16 : Stand p l e ({ frames := 0, cells := 2, slots := 10, locals := 0 } : Room) s m #[(.ref a), (.int p1)] below meth c T16 L16 1 5) (e16 : T16.heap = h16) (N16 : Fr n0 L16) (kk16 : Keep h0 h16 []) (f16_0 : own_IA Z h16 b1 [x0, x1, x2, (0 : Int32), (0 : Int32)]) (hL3 : (own_pick p1 w0 w1 w2 w3 w4) = [x0, x1, x2]), own_Go p e below s (Q_rm2 Z a p1 w0 w1 w2 w3 w4 h0 n0) 2 10 (T16.setTop (mkF m 83 #[.val (.ref a), .val (.int p1), .val (.ref b1), .val (.int (3 : Int32))] [])) := by
    intro T16 L16 h16 x0 x1 x2 X16 e16 N16 kk16 f16_0 hL3
    have zp16 : n0 ≤ h16.size := Nat.le_trans Z0 kk16.1
    refine own_go (B := T16.setTop (mkF m 129 #[.val (.ref a), .val (.int p1), .val (.ref b1), .val (.int (3 : Int32))] [(.int (3 : Int32)), (.int (3 : Int32))])) (fun tgt cont => ?_) ?_
    · refine XS.iloadN X16.here hx rfl (hb hby d2_83) rfl ?_
      refine XS.ifYes X16.here hx rfl (pc0 := 84) (pc' := 91) rfl (hb hby d2_84) rfl (XT.i0_ne_t (by decide)) (by decide) (by decide) ?_
      refine XS.iloadN X16.here hx rfl (hb hby d2_91) rfl ?_
      refine XT.iconstV X16.here hx rfl (1 : Int32) (hb hby d2_92) rfl ?_
      refine XS.icmpYes X16.here hx rfl (pc0 := 93) (pc' := 106) rfl (hb hby d2_93) rfl (XT.ii_ne_t (by decide)) (by decide) (by decide) ?_
      refine XS.iloadN X16.here hx rfl (hb hby d2_106) rfl ?_
      refine XT.iconstV X16.here hx rfl (2 : Int32) (hb hby d2_107) rfl ?_
      refine XS.icmpYes X16.here hx rfl (pc0 := 108) (pc' := 127) rfl (hb hby d2_108) rfl (XT.ii_ne_t (by decide)) (by decide) (by decide) ?_
      refine XS.iloadN X16.here hx rfl (hb hby d2_127) rfl ?_
      refine XT.iconstV X16.here hx rfl (3 : Int32) (hb hby d2_128) rfl ?_
      exact cont
    refine own_go (B := T16.setTop (mkF m 133 #[.val (.ref a), .val (.int p1), .val (.ref b1), .val (.int (3 : Int32))] [(.int (3 : Int32))])) (fun tgt cont => ?_) ?_
    · refine XS.icmpNo X16.here hx rfl (hb hby d2_129) rfl (XT.ii_ne_f (by decide)) ?_
      refine XT.iconstV X16.here hx rfl (3 : Int32) (hb hby d2_132) rfl ?_
      exact cont
    obtain ⟨T17, h17, X17, e17, E17, A17, AE17, st17⟩ := own_newIA X16 hx hZ (hw _ (List.mem_of_getElem? (i := 6) rfl)) e16 (g := (mkF m 133 #[.val (.ref a), .val (.int p1), .val (.ref b1), .val (.int (3 : Int32))] [(.int (3 : Int32))])) rfl (hb hby d2_133) rfl (by decide) (cap := 3) (by decide) (by decide) (by decide) (by decide)
    obtain ⟨b17, g17⟩ : ∃ z, z = h16.size := ⟨_, rfl⟩
    rw [← g17] at A17 AE17 st17
    have g_b17 : n0 ≤ b17 := Nat.le_trans zp16 (Nat.le_of_eq g17.symm)
    have sz_b17 : h0.size ≤ b17 := Nat.le_trans kk16.1 (Nat.le_of_eq g17.symm)
    have ne_b1_b17 : b1 ≠ b17 := Nat.ne_of_lt (by rw [g17]; exact f16_0.lt)
    have kk17 : Keep h0 h17 [] := kk16.ext E17
    have zp17 : n0 ≤ h17.size := Nat.le_trans Z0 kk17.1
    have A17v : own_IA Z h17 b17 [(0 : Int32), (0 : Int32), (0 : Int32)] := A17
    refine own_go (fun tgt cont => st17 tgt cont) ?_
    show own_Go p e below s (Q_rm2 Z a p1 w0 w1 w2 w3 w4 h0 n0) 2 10 (T17.setTop (mkF m 135 #[.val (.ref a), .val (.int p1), .val (.ref b1), .val (.int (3 : Int32))] [(.ref b17)]))
    have f18 := (f16_0.ext E17)
    refine own_go (B := T17.setTop (mkF m 140 #[.val (.ref a), .val (.int p1), .val (.ref b1), .val (.int (3 : Int32))] [(.int x0), (.int (0 : Int32)), (.ref b17), (.ref b17)])) (fun tgt cont => ?_) ?_
    · refine XS.dup X17.here hx rfl (hb hby d2_135) rfl rfl ?_
      refine XT.iconstV X17.here hx rfl (0 : Int32) (hb hby d2_136) rfl ?_
      refine XS.aloadN X17.here hx rfl (hb hby d2_137) rfl rfl ?_
      refine XT.iconstV X17.here hx rfl (0 : Int32) (hb hby d2_138) rfl ?_
      refine own_ldIA X17 hx hZ e17 f18 (j := (0 : Int32)) ⟨by decide, Nat.le_of_ble_eq_true rfl⟩ (g := (mkF m 139 #[.val (.ref a), .val (.int p1), .val (.ref b1), .val (.int (3 : Int32))] [(.int (0 : Int32)), (.ref b1), (.int (0 : Int32)), (.ref b17), (.ref b17)])) rfl rfl (hb hby d2_139) ?_
      exact cont
    obtain ⟨T19, h19, X19, e19, W19, A19, st19⟩ := own_stIA X17 hx hZ e17 A17v (j := (0 : Int32)) (x := x0) ⟨by decide, Nat.le_of_ble_eq_true rfl⟩ (g := (mkF m 140 #[.val (.ref a), .val (.int p1), .val (.ref b1), .val (.int (3 : Int32))] [(.int x0), (.int (0 : Int32)), (.ref b17), (.ref b17)])) rfl rfl (hb hby d2_140)
    have N19 := Fr.snoc X19 N16 g_b17
    have kk19 : Keep h0 h19 [] := kk17.wr W19 (Or.inr sz_b17)
    have zp19 : n0 ≤ h19.size := Nat.le_trans Z0 kk19.1
    have A19v : own_IA Z h19 b17 [x0, (0 : Int32), (0 : Int32)] := A19
    refine own_go (fun tgt cont => st19 tgt cont) ?_
    show own_Go p e below s (Q_rm2 Z a p1 w0 w1 w2 w3 w4 h0 n0) 2 10 (T19.setTop (mkF m 141 #[.val (.ref a), .val (.int p1), .val (.ref b1), .val (.int (3 : Int32))] [(.ref b17)]))
    have f20 := (f18.other W19 ne_b1_b17)
    refine own_go (B := T19.setTop (mkF m 146 #[.val (.ref a), .val (.int p1), .val (.ref b1), .val (.int (3 : Int32))] [(.int x1), (.int (1 : Int32)), (.ref b17), (.ref b17)])) (fun tgt cont => ?_) ?_
    · refine XS.dup X19.here hx rfl (hb hby d2_141) rfl rfl ?_
      refine XT.iconstV X19.here hx rfl (1 : Int32) (hb hby d2_142) rfl ?_
      refine XS.aloadN X19.here hx rfl (hb hby d2_143) rfl rfl ?_
      refine XT.iconstV X19.here hx rfl (1 : Int32) (hb hby d2_144) rfl ?_
      refine own_ldIA X19 hx hZ e19 f20 (j := (1 : Int32)) ⟨by decide, Nat.le_of_ble_eq_true rfl⟩ (g := (mkF m 145 #[.val (.ref a), .val (.int p1), .val (.ref b1), .val (.int (3 : Int32))] [(.int (1 : Int32)), (.ref b1), (.int (1 : Int32)), (.ref b17), (.ref b17)])) rfl rfl (hb hby d2_145) ?_
      exact cont
    obtain ⟨T21, h21, X21, e21, W21, A21, st21⟩ := own_stIA X19 hx hZ e19 A19v (j := (1 : Int32)) (x := x1) ⟨by decide, Nat.le_of_ble_eq_true rfl⟩ (g := (mkF m 146 #[.val (.ref a), .val (.int p1), .val (.ref b1), .val (.int (3 : Int32))] [(.int x1), (.int (1 : Int32)), (.ref b17), (.ref b17)])) rfl rfl (hb hby d2_146)
    have N21 := Fr.snoc X21 N19 g_b17
    have kk21 : Keep h0 h21 [] := kk19.wr W21 (Or.inr sz_b17)
    have zp21 : n0 ≤ h21.size := Nat.le_trans Z0 kk21.1
    have A21v : own_IA Z h21 b17 [x0, x1, (0 : Int32)] := A21
    refine own_go (fun tgt cont => st21 tgt cont) ?_
    show own_Go p e below s (Q_rm2 Z a p1 w0 w1 w2 w3 w4 h0 n0) 2 10 (T21.setTop (mkF m 147 #[.val (.ref a), .val (.int p1), .val (.ref b1), .val (.int (3 : Int32))] [(.ref b17)]))
    have f22 := (f20.other W21 ne_b1_b17)
    refine own_go (B := T21.setTop (mkF m 152 #[.val (.ref a), .val (.int p1), .val (.ref b1), .val (.int (3 : Int32))] [(.int x2), (.int (2 : Int32)), (.ref b17), (.ref b17)])) (fun tgt cont => ?_) ?_
    · refine XS.dup X21.here hx rfl (hb hby d2_147) rfl rfl ?_
      refine XT.iconstV X21.here hx rfl (2 : Int32) (hb hby d2_148) rfl ?_
      refine XS.aloadN X21.here hx rfl (hb hby d2_149) rfl rfl ?_
      refine XT.iconstV X21.here hx rfl (2 : Int32) (hb hby d2_150) rfl ?_
      refine own_ldIA X21 hx hZ e21 f22 (j := (2 : Int32)) ⟨by decide, Nat.le_of_ble_eq_true rfl⟩ (g := (mkF m 151 #[.val (.ref a), .val (.int p1), .val (.ref b1), .val (.int (3 : Int32))] [(.int (2 : Int32)), (.ref b1), (.int (2 : Int32)), (.ref b17), (.ref b17)])) rfl rfl (hb hby d2_151) ?_
      exact cont
    obtain ⟨T23, h23, X23, e23, W23, A23, st23⟩ := own_stIA X21 hx hZ e21 A21v (j := (2 : Int32)) (x := x2) ⟨by decide, Nat.le_of_ble_eq_true rfl⟩ (g := (mkF m 152 #[.val (.ref a), .val (.int p1), .val (.ref b1), .val (.int (3 : Int32))] [(.int x2), (.int (2 : Int32)), (.ref b17), (.ref b17)])) rfl rfl (hb hby d2_152)
    have N23 := Fr.snoc X23 N21 g_b17
    have kk23 : Keep h0 h23 [] := kk21.wr W23 (Or.inr sz_b17)
    have zp23 : n0 ≤ h23.size := Nat.le_trans Z0 kk23.1
    have A23v : own_IA Z h23 b17 [x0, x1, x2] := A23
    refine own_go (fun tgt cont => st23 tgt cont) ?_
    show own_Go p e below s (Q_rm2 Z a p1 w0 w1 w2 w3 w4 h0 n0) 2 10 (T23.setTop (mkF m 153 #[.val (.ref a), .val (.int p1), .val (.ref b1), .val (.int (3 : Int32))] [(.ref b17)]))
    refine own_end X23 (v := some (.ref b17)) (fun h => by rw [Bd.returns] at h; cases h) hlk ?_ (by decide) (by decide) (fun fs hl => retOut X23 hx Bd.returns rfl (Or.inr (Or.inr (Or.inr (Or.inr ⟨rfl, rfl, rfl⟩)))) (hb hby d2_153) hl)
    have f24 := (((AE17.wr W19).wr W21).wr W23)
    rw [e23]
    exact ⟨_, rfl, N23, kk23, sz_b17, (by rw [hL3]; exact A23v), f24⟩
  have KP4 : ∀ (T25 : State) (L25 : List Loc) (h25 : Heap) (x0 : Int32) (x1 : Int32) (x2 : Int32) (x3 : Int32) (X25 : Stand p l e ({ frames := 0, cells := 2, slots := 10, locals := 0 } : Room) s m #[(.ref a), (.int p1)] below meth c T25 L25 1 5) (e25 : T25.heap = h25) (N25 : Fr n0 L25) (kk25 : Keep h0 h25 []) (f25_0 : own_IA Z h25 b1 [x0, x1, x2, x3, (0 : Int32)]) (hL4 : (own_pick p1 w0 w1 w2 w3 w4) = [x0, x1, x2, x3]), own_Go p e below s (Q_rm2 Z a p1 w0 w1 w2 w3 w4 h0 n0) 2 10 (T25.setTop (mkF m 83 #[.val (.ref a), .val (.int p1), .val (.ref b1), .val (.int (4 : Int32))] [])) := by
    intro T25 L25 h25 x0 x1 x2 x3 X25 e25 N25 kk25 f25_0 hL4
    have zp25 : n0 ≤ h25.size := Nat.le_trans Z0 kk25.1
    refine own_go (B := T25.setTop (mkF m 129 #[.val (.ref a), .val (.int p1), .val (.ref b1), .val (.int (4 : Int32))] [(.int (3 : Int32)), (.int (4 : Int32))])) (fun tgt cont => ?_) ?_
    · refine XS.iloadN X25.here hx rfl (hb hby d2_83) rfl ?_
      refine XS.ifYes X25.here hx rfl (pc0 := 84) (pc' := 91) rfl (hb hby d2_84) rfl (XT.i0_ne_t (by decide)) (by decide) (by decide) ?_
      refine XS.iloadN X25.here hx rfl (hb hby d2_91) rfl ?_
      refine XT.iconstV X25.here hx rfl (1 : Int32) (hb hby d2_92) rfl ?_
      refine XS.icmpYes X25.here hx rfl (pc0 := 93) (pc' := 106) rfl (hb hby d2_93) rfl (XT.ii_ne_t (by decide)) (by decide) (by decide) ?_
      refine XS.iloadN X25.here hx rfl (hb hby d2_106) rfl ?_
      refine XT.iconstV X25.here hx rfl (2 : Int32) (hb hby d2_107) rfl ?_
      refine XS.icmpYes X25.here hx rfl (pc0 := 108) (pc' := 127) rfl (hb hby d2_108) rfl (XT.ii_ne_t (by decide)) (by decide) (by decide) ?_
      refine XS.iloadN X25.here hx rfl (hb hby d2_127) rfl ?_
      refine XT.iconstV X25.here hx rfl (3 : Int32) (hb hby d2_128) rfl ?_
      exact cont
    refine own_go (B := T25.setTop (mkF m 160 #[.val (.ref a), .val (.int p1), .val (.ref b1), .val (.int (4 : Int32))] [(.int (4 : Int32))])) (fun tgt cont => ?_) ?_
    · refine XS.icmpYes X25.here hx rfl (pc0 := 129) (pc' := 154) rfl (hb hby d2_129) rfl (XT.ii_ne_t (by decide)) (by decide) (by decide) ?_
      refine XS.iloadN X25.here hx rfl (hb hby d2_154) rfl ?_
      refine XT.iconstV X25.here hx rfl (4 : Int32) (hb hby d2_155) rfl ?_
      refine XS.icmpNo X25.here hx rfl (hb hby d2_156) rfl (XT.ii_ne_f (by decide)) ?_
      refine XT.iconstV X25.here hx rfl (4 : Int32) (hb hby d2_159) rfl ?_
      exact cont
    obtain ⟨T26, h26, X26, e26, E26, A26, AE26, st26⟩ := own_newIA X25 hx hZ (hw _ (List.mem_of_getElem? (i := 6) rfl)) e25 (g := (mkF m 160 #[.val (.ref a), .val (.int p1), .val (.ref b1), .val (.int (4 : Int32))] [(.int (4 : Int32))])) rfl (hb hby d2_160) rfl (by decide) (cap := 4) (by decide) (by decide) (by decide) (by decide)
    obtain ⟨b26, g26⟩ : ∃ z, z = h25.size := ⟨_, rfl⟩
    rw [← g26] at A26 AE26 st26
    have g_b26 : n0 ≤ b26 := Nat.le_trans zp25 (Nat.le_of_eq g26.symm)
    have sz_b26 : h0.size ≤ b26 := Nat.le_trans kk25.1 (Nat.le_of_eq g26.symm)
    have ne_b1_b26 : b1 ≠ b26 := Nat.ne_of_lt (by rw [g26]; exact f25_0.lt)
    have kk26 : Keep h0 h26 [] := kk25.ext E26
    have zp26 : n0 ≤ h26.size := Nat.le_trans Z0 kk26.1
    have A26v : own_IA Z h26 b26 [(0 : Int32), (0 : Int32), (0 : Int32), (0 : Int32)] := A26
    refine own_go (fun tgt cont => st26 tgt cont) ?_
    show own_Go p e below s (Q_rm2 Z a p1 w0 w1 w2 w3 w4 h0 n0) 2 10 (T26.setTop (mkF m 162 #[.val (.ref a), .val (.int p1), .val (.ref b1), .val (.int (4 : Int32))] [(.ref b26)]))
    have f27 := (f25_0.ext E26)
    refine own_go (B := T26.setTop (mkF m 167 #[.val (.ref a), .val (.int p1), .val (.ref b1), .val (.int (4 : Int32))] [(.int x0), (.int (0 : Int32)), (.ref b26), (.ref b26)])) (fun tgt cont => ?_) ?_
    · refine XS.dup X26.here hx rfl (hb hby d2_162) rfl rfl ?_
      refine XT.iconstV X26.here hx rfl (0 : Int32) (hb hby d2_163) rfl ?_
      refine XS.aloadN X26.here hx rfl (hb hby d2_164) rfl rfl ?_
      refine XT.iconstV X26.here hx rfl (0 : Int32) (hb hby d2_165) rfl ?_
      refine own_ldIA X26 hx hZ e26 f27 (j := (0 : Int32)) ⟨by decide, Nat.le_of_ble_eq_true rfl⟩ (g := (mkF m 166 #[.val (.ref a), .val (.int p1), .val (.ref b1), .val (.int (4 : Int32))] [(.int (0 : Int32)), (.ref b1), (.int (0 : Int32)), (.ref b26), (.ref b26)])) rfl rfl (hb hby d2_166) ?_
      exact cont
    obtain ⟨T28, h28, X28, e28, W28, A28, st28⟩ := own_stIA X26 hx hZ e26 A26v (j := (0 : Int32)) (x := x0) ⟨by decide, Nat.le_of_ble_eq_true rfl⟩ (g := (mkF m 167 #[.val (.ref a), .val (.int p1), .val (.ref b1), .val (.int (4 : Int32))] [(.int x0), (.int (0 : Int32)), (.ref b26), (.ref b26)])) rfl rfl (hb hby d2_167)
    have N28 := Fr.snoc X28 N25 g_b26
    have kk28 : Keep h0 h28 [] := kk26.wr W28 (Or.inr sz_b26)
    have zp28 : n0 ≤ h28.size := Nat.le_trans Z0 kk28.1
    have A28v : own_IA Z h28 b26 [x0, (0 : Int32), (0 : Int32), (0 : Int32)] := A28
    refine own_go (fun tgt cont => st28 tgt cont) ?_
    show own_Go p e below s (Q_rm2 Z a p1 w0 w1 w2 w3 w4 h0 n0) 2 10 (T28.setTop (mkF m 168 #[.val (.ref a), .val (.int p1), .val (.ref b1), .val (.int (4 : Int32))] [(.ref b26)]))
    have f29 := (f27.other W28 ne_b1_b26)
    refine own_go (B := T28.setTop (mkF m 173 #[.val (.ref a), .val (.int p1), .val (.ref b1), .val (.int (4 : Int32))] [(.int x1), (.int (1 : Int32)), (.ref b26), (.ref b26)])) (fun tgt cont => ?_) ?_
    · refine XS.dup X28.here hx rfl (hb hby d2_168) rfl rfl ?_
      refine XT.iconstV X28.here hx rfl (1 : Int32) (hb hby d2_169) rfl ?_
      refine XS.aloadN X28.here hx rfl (hb hby d2_170) rfl rfl ?_
      refine XT.iconstV X28.here hx rfl (1 : Int32) (hb hby d2_171) rfl ?_
      refine own_ldIA X28 hx hZ e28 f29 (j := (1 : Int32)) ⟨by decide, Nat.le_of_ble_eq_true rfl⟩ (g := (mkF m 172 #[.val (.ref a), .val (.int p1), .val (.ref b1), .val (.int (4 : Int32))] [(.int (1 : Int32)), (.ref b1), (.int (1 : Int32)), (.ref b26), (.ref b26)])) rfl rfl (hb hby d2_172) ?_
      exact cont
    obtain ⟨T30, h30, X30, e30, W30, A30, st30⟩ := own_stIA X28 hx hZ e28 A28v (j := (1 : Int32)) (x := x1) ⟨by decide, Nat.le_of_ble_eq_true rfl⟩ (g := (mkF m 173 #[.val (.ref a), .val (.int p1), .val (.ref b1), .val (.int (4 : Int32))] [(.int x1), (.int (1 : Int32)), (.ref b26), (.ref b26)])) rfl rfl (hb hby d2_173)
    have N30 := Fr.snoc X30 N28 g_b26
    have kk30 : Keep h0 h30 [] := kk28.wr W30 (Or.inr sz_b26)
    have zp30 : n0 ≤ h30.size := Nat.le_trans Z0 kk30.1
    have A30v : own_IA Z h30 b26 [x0, x1, (0 : Int32), (0 : Int32)] := A30
    refine own_go (fun tgt cont => st30 tgt cont) ?_
    show own_Go p e below s (Q_rm2 Z a p1 w0 w1 w2 w3 w4 h0 n0) 2 10 (T30.setTop (mkF m 174 #[.val (.ref a), .val (.int p1), .val (.ref b1), .val (.int (4 : Int32))] [(.ref b26)]))
    have f31 := (f29.other W30 ne_b1_b26)
    refine own_go (B := T30.setTop (mkF m 179 #[.val (.ref a), .val (.int p1), .val (.ref b1), .val (.int (4 : Int32))] [(.int x2), (.int (2 : Int32)), (.ref b26), (.ref b26)])) (fun tgt cont => ?_) ?_
    · refine XS.dup X30.here hx rfl (hb hby d2_174) rfl rfl ?_
      refine XT.iconstV X30.here hx rfl (2 : Int32) (hb hby d2_175) rfl ?_
      refine XS.aloadN X30.here hx rfl (hb hby d2_176) rfl rfl ?_
      refine XT.iconstV X30.here hx rfl (2 : Int32) (hb hby d2_177) rfl ?_
      refine own_ldIA X30 hx hZ e30 f31 (j := (2 : Int32)) ⟨by decide, Nat.le_of_ble_eq_true rfl⟩ (g := (mkF m 178 #[.val (.ref a), .val (.int p1), .val (.ref b1), .val (.int (4 : Int32))] [(.int (2 : Int32)), (.ref b1), (.int (2 : Int32)), (.ref b26), (.ref b26)])) rfl rfl (hb hby d2_178) ?_
      exact cont
    obtain ⟨T32, h32, X32, e32, W32, A32, st32⟩ := own_stIA X30 hx hZ e30 A30v (j := (2 : Int32)) (x := x2) ⟨by decide, Nat.le_of_ble_eq_true rfl⟩ (g := (mkF m 179 #[.val (.ref a), .val (.int p1), .val (.ref b1), .val (.int (4 : Int32))] [(.int x2), (.int (2 : Int32)), (.ref b26), (.ref b26)])) rfl rfl (hb hby d2_179)
    have N32 := Fr.snoc X32 N30 g_b26
    have kk32 : Keep h0 h32 [] := kk30.wr W32 (Or.inr sz_b26)
    have zp32 : n0 ≤ h32.size := Nat.le_trans Z0 kk32.1
    have A32v : own_IA Z h32 b26 [x0, x1, x2, (0 : Int32)] := A32
    refine own_go (fun tgt cont => st32 tgt cont) ?_
    show own_Go p e below s (Q_rm2 Z a p1 w0 w1 w2 w3 w4 h0 n0) 2 10 (T32.setTop (mkF m 180 #[.val (.ref a), .val (.int p1), .val (.ref b1), .val (.int (4 : Int32))] [(.ref b26)]))
    have f33 := (f31.other W32 ne_b1_b26)
    refine own_go (B := T32.setTop (mkF m 185 #[.val (.ref a), .val (.int p1), .val (.ref b1), .val (.int (4 : Int32))] [(.int x3), (.int (3 : Int32)), (.ref b26), (.ref b26)])) (fun tgt cont => ?_) ?_
    · refine XS.dup X32.here hx rfl (hb hby d2_180) rfl rfl ?_
      refine XT.iconstV X32.here hx rfl (3 : Int32) (hb hby d2_181) rfl ?_
      refine XS.aloadN X32.here hx rfl (hb hby d2_182) rfl rfl ?_
      refine XT.iconstV X32.here hx rfl (3 : Int32) (hb hby d2_183) rfl ?_
      refine own_ldIA X32 hx hZ e32 f33 (j := (3 : Int32)) ⟨by decide, Nat.le_of_ble_eq_true rfl⟩ (g := (mkF m 184 #[.val (.ref a), .val (.int p1), .val (.ref b1), .val (.int (4 : Int32))] [(.int (3 : Int32)), (.ref b1), (.int (3 : Int32)), (.ref b26), (.ref b26)])) rfl rfl (hb hby d2_184) ?_
      exact cont
    obtain ⟨T34, h34, X34, e34, W34, A34, st34⟩ := own_stIA X32 hx hZ e32 A32v (j := (3 : Int32)) (x := x3) ⟨by decide, Nat.le_of_ble_eq_true rfl⟩ (g := (mkF m 185 #[.val (.ref a), .val (.int p1), .val (.ref b1), .val (.int (4 : Int32))] [(.int x3), (.int (3 : Int32)), (.ref b26), (.ref b26)])) rfl rfl (hb hby d2_185)
    have N34 := Fr.snoc X34 N32 g_b26
    have kk34 : Keep h0 h34 [] := kk32.wr W34 (Or.inr sz_b26)
    have zp34 : n0 ≤ h34.size := Nat.le_trans Z0 kk34.1
    have A34v : own_IA Z h34 b26 [x0, x1, x2, x3] := A34
    refine own_go (fun tgt cont => st34 tgt cont) ?_
    show own_Go p e below s (Q_rm2 Z a p1 w0 w1 w2 w3 w4 h0 n0) 2 10 (T34.setTop (mkF m 186 #[.val (.ref a), .val (.int p1), .val (.ref b1), .val (.int (4 : Int32))] [(.ref b26)]))
    refine own_end X34 (v := some (.ref b26)) (fun h => by rw [Bd.returns] at h; cases h) hlk ?_ (by decide) (by decide) (fun fs hl => retOut X34 hx Bd.returns rfl (Or.inr (Or.inr (Or.inr (Or.inr ⟨rfl, rfl, rfl⟩)))) (hb hby d2_186) hl)
    have f35 := ((((AE26.wr W28).wr W30).wr W32).wr W34)
    rw [e34]
    exact ⟨_, rfl, N34, kk34, sz_b26, (by rw [hL4]; exact A34v), f35⟩
  have KP5 : ∀ (T36 : State) (L36 : List Loc) (h36 : Heap) (x0 : Int32) (x1 : Int32) (x2 : Int32) (x3 : Int32) (x4 : Int32) (X36 : Stand p l e ({ frames := 0, cells := 2, slots := 10, locals := 0 } : Room) s m #[(.ref a), (.int p1)] below meth c T36 L36 1 5) (e36 : T36.heap = h36) (N36 : Fr n0 L36) (kk36 : Keep h0 h36 []) (f36_0 : own_IA Z h36 b1 [x0, x1, x2, x3, x4]) (hL5 : (own_pick p1 w0 w1 w2 w3 w4) = [x0, x1, x2, x3, x4]), own_Go p e below s (Q_rm2 Z a p1 w0 w1 w2 w3 w4 h0 n0) 2 10 (T36.setTop (mkF m 83 #[.val (.ref a), .val (.int p1), .val (.ref b1), .val (.int (5 : Int32))] [])) := by
    intro T36 L36 h36 x0 x1 x2 x3 x4 X36 e36 N36 kk36 f36_0 hL5
    have zp36 : n0 ≤ h36.size := Nat.le_trans Z0 kk36.1
    refine own_go (B := T36.setTop (mkF m 129 #[.val (.ref a), .val (.int p1), .val (.ref b1), .val (.int (5 : Int32))] [(.int (3 : Int32)), (.int (5 : Int32))])) (fun tgt cont => ?_) ?_
    · refine XS.iloadN X36.here hx rfl (hb hby d2_83) rfl ?_
      refine XS.ifYes X36.here hx rfl (pc0 := 84) (pc' := 91) rfl (hb hby d2_84) rfl (XT.i0_ne_t (by decide)) (by decide) (by decide) ?_
      refine XS.iloadN X36.here hx rfl (hb hby d2_91) rfl ?_
      refine XT.iconstV X36.here hx rfl (1 : Int32) (hb hby d2_92) rfl ?_
      refine XS.icmpYes X36.here hx rfl (pc0 := 93) (pc' := 106) rfl (hb hby d2_93) rfl (XT.ii_ne_t (by decide)) (by decide) (by decide) ?_
      refine XS.iloadN X36.here hx rfl (hb hby d2_106) rfl ?_
      refine XT.iconstV X36.here hx rfl (2 : Int32) (hb hby d2_107) rfl ?_
      refine XS.icmpYes X36.here hx rfl (pc0 := 108) (pc' := 127) rfl (hb hby d2_108) rfl (XT.ii_ne_t (by decide)) (by decide) (by decide) ?_
      refine XS.iloadN X36.here hx rfl (hb hby d2_127) rfl ?_
      refine XT.iconstV X36.here hx rfl (3 : Int32) (hb hby d2_128) rfl ?_
      exact cont
    refine own_go (B := T36.setTop (mkF m 188 #[.val (.ref a), .val (.int p1), .val (.ref b1), .val (.int (5 : Int32))] [(.int (5 : Int32))])) (fun tgt cont => ?_) ?_
    · refine XS.icmpYes X36.here hx rfl (pc0 := 129) (pc' := 154) rfl (hb hby d2_129) rfl (XT.ii_ne_t (by decide)) (by decide) (by decide) ?_
      refine XS.iloadN X36.here hx rfl (hb hby d2_154) rfl ?_
      refine XT.iconstV X36.here hx rfl (4 : Int32) (hb hby d2_155) rfl ?_
      refine XS.icmpYes X36.here hx rfl (pc0 := 156) (pc' := 187) rfl (hb hby d2_156) rfl (XT.ii_ne_t (by decide)) (by decide) (by decide) ?_
      refine XT.iconstV X36.here hx rfl (5 : Int32) (hb hby d2_187) rfl ?_
      exact cont
    obtain ⟨T37, h37, X37, e37, E37, A37, AE37, st37⟩ := own_newIA X36 hx hZ (hw _ (List.mem_of_getElem? (i := 6) rfl)) e36 (g := (mkF m 188 #[.val (.ref a), .val (.int p1), .val (.ref b1), .val (.int (5 : Int32))] [(.int (5 : Int32))])) rfl (hb hby d2_188) rfl (by decide) (cap := 5) (by decide) (by decide) (by decide) (by decide)
    obtain ⟨b37, g37⟩ : ∃ z, z = h36.size := ⟨_, rfl⟩
    rw [← g37] at A37 AE37 st37
    have g_b37 : n0 ≤ b37 := Nat.le_trans zp36 (Nat.le_of_eq g37.symm)
    have sz_b37 : h0.size ≤ b37 := Nat.le_trans kk36.1 (Nat.le_of_eq g37.symm)
    have ne_b1_b37 : b1 ≠ b37 := Nat.ne_of_lt (by rw [g37]; exact f36_0.lt)
    have kk37 : Keep h0 h37 [] := kk36.ext E37
    have zp37 : n0 ≤ h37.size := Nat.le_trans Z0 kk37.1
    have A37v : own_IA Z h37 b37 [(0 : Int32), (0 : Int32), (0 : Int32), (0 : Int32), (0 : Int32)] := A37
    refine own_go (fun tgt cont => st37 tgt cont) ?_
    show own_Go p e below s (Q_rm2 Z a p1 w0 w1 w2 w3 w4 h0 n0) 2 10 (T37.setTop (mkF m 190 #[.val (.ref a), .val (.int p1), .val (.ref b1), .val (.int (5 : Int32))] [(.ref b37)]))
    have f38 := (f36_0.ext E37)
    refine own_go (B := T37.setTop (mkF m 195 #[.val (.ref a), .val (.int p1), .val (.ref b1), .val (.int (5 : Int32))] [(.int x0), (.int (0 : Int32)), (.ref b37), (.ref b37)])) (fun tgt cont => ?_) ?_
    · refine XS.dup X37.here hx rfl (hb hby d2_190) rfl rfl ?_
      refine XT.iconstV X37.here hx rfl (0 : Int32) (hb hby d2_191) rfl ?_
      refine XS.aloadN X37.here hx rfl (hb hby d2_192) rfl rfl ?_
      refine XT.iconstV X37.here hx rfl (0 : Int32) (hb hby d2_193) rfl ?_
      refine own_ldIA X37 hx hZ e37 f38 (j := (0 : Int32)) ⟨by decide, Nat.le_of_ble_eq_true rfl⟩ (g := (mkF m 194 #[.val (.ref a), .val (.int p1), .val (.ref b1), .val (.int (5 : Int32))] [(.int (0 : Int32)), (.ref b1), (.int (0 : Int32)), (.ref b37), (.ref b37)])) rfl rfl (hb hby d2_194) ?_
      exact cont
    obtain ⟨T39, h39, X39, e39, W39, A39, st39⟩ := own_stIA X37 hx hZ e37 A37v (j := (0 : Int32)) (x := x0) ⟨by decide, Nat.le_of_ble_eq_true rfl⟩ (g := (mkF m 195 #[.val (.ref a), .val (.int p1), .val (.ref b1), .val (.int (5 : Int32))] [(.int x0), (.int (0 : Int32)), (.ref b37), (.ref b37)])) rfl rfl (hb hby d2_195)
    have N39 := Fr.snoc X39 N36 g_b37
    have kk39 : Keep h0 h39 [] := kk37.wr W39 (Or.inr sz_b37)
    have zp39 : n0 ≤ h39.size := Nat.le_trans Z0 kk39.1
    have A39v : own_IA Z h39 b37 [x0, (0 : Int32), (0 : Int32), (0 : Int32), (0 : Int32)] := A39
    refine own_go (fun tgt cont => st39 tgt cont) ?_
    show own_Go p e below s (Q_rm2 Z a p1 w0 w1 w2 w3 w4 h0 n0) 2 10 (T39.setTop (mkF m 196 #[.val (.ref a), .val (.int p1), .val (.ref b1), .val (.int (5 : Int32))] [(.ref b37)]))
    have f40 := (f38.other W39 ne_b1_b37)
    refine own_go (B := T39.setTop (mkF m 201 #[.val (.ref a), .val (.int p1), .val (.ref b1), .val (.int (5 : Int32))] [(.int x1), (.int (1 : Int32)), (.ref b37), (.ref b37)])) (fun tgt cont => ?_) ?_
    · refine XS.dup X39.here hx rfl (hb hby d2_196) rfl rfl ?_
      refine XT.iconstV X39.here hx rfl (1 : Int32) (hb hby d2_197) rfl ?_
      refine XS.aloadN X39.here hx rfl (hb hby d2_198) rfl rfl ?_
      refine XT.iconstV X39.here hx rfl (1 : Int32) (hb hby d2_199) rfl ?_
      refine own_ldIA X39 hx hZ e39 f40 (j := (1 : Int32)) ⟨by decide, Nat.le_of_ble_eq_true rfl⟩ (g := (mkF m 200 #[.val (.ref a), .val (.int p1), .val (.ref b1), .val (.int (5 : Int32))] [(.int (1 : Int32)), (.ref b1), (.int (1 : Int32)), (.ref b37), (.ref b37)])) rfl rfl (hb hby d2_200) ?_
      exact cont
    obtain ⟨T41, h41, X41, e41, W41, A41, st41⟩ := own_stIA X39 hx hZ e39 A39v (j := (1 : Int32)) (x := x1) ⟨by decide, Nat.le_of_ble_eq_true rfl⟩ (g := (mkF m 201 #[.val (.ref a), .val (.int p1), .val (.ref b1), .val (.int (5 : Int32))] [(.int x1), (.int (1 : Int32)), (.ref b37), (.ref b37)])) rfl rfl (hb hby d2_201)
    have N41 := Fr.snoc X41 N39 g_b37
    have kk41 : Keep h0 h41 [] := kk39.wr W41 (Or.inr sz_b37)
    have zp41 : n0 ≤ h41.size := Nat.le_trans Z0 kk41.1
    have A41v : own_IA Z h41 b37 [x0, x1, (0 : Int32), (0 : Int32), (0 : Int32)] := A41
    refine own_go (fun tgt cont => st41 tgt cont) ?_
    show own_Go p e below s (Q_rm2 Z a p1 w0 w1 w2 w3 w4 h0 n0) 2 10 (T41.setTop (mkF m 202 #[.val (.ref a), .val (.int p1), .val (.ref b1), .val (.int (5 : Int32))] [(.ref b37)]))
    have f42 := (f40.other W41 ne_b1_b37)
    refine own_go (B := T41.setTop (mkF m 207 #[.val (.ref a), .val (.int p1), .val (.ref b1), .val (.int (5 : Int32))] [(.int x2), (.int (2 : Int32)), (.ref b37), (.ref b37)])) (fun tgt cont => ?_) ?_
    · refine XS.dup X41.here hx rfl (hb hby d2_202) rfl rfl ?_
      refine XT.iconstV X41.here hx rfl (2 : Int32) (hb hby d2_203) rfl ?_
      refine XS.aloadN X41.here hx rfl (hb hby d2_204) rfl rfl ?_
      refine XT.iconstV X41.here hx rfl (2 : Int32) (hb hby d2_205) rfl ?_
      refine own_ldIA X41 hx hZ e41 f42 (j := (2 : Int32)) ⟨by decide, Nat.le_of_ble_eq_true rfl⟩ (g := (mkF m 206 #[.val (.ref a), .val (.int p1), .val (.ref b1), .val (.int (5 : Int32))] [(.int (2 : Int32)), (.ref b1), (.int (2 : Int32)), (.ref b37), (.ref b37)])) rfl rfl (hb hby d2_206) ?_
      exact cont
    obtain ⟨T43, h43, X43, e43, W43, A43, st43⟩ := own_stIA X41 hx hZ e41 A41v (j := (2 : Int32)) (x := x2) ⟨by decide, Nat.le_of_ble_eq_true rfl⟩ (g := (mkF m 207 #[.val (.ref a), .val (.int p1), .val (.ref b1), .val (.int (5 : Int32))] [(.int x2), (.int (2 : Int32)), (.ref b37), (.ref b37)])) rfl rfl (hb hby d2_207)
    have N43 := Fr.snoc X43 N41 g_b37
    have kk43 : Keep h0 h43 [] := kk41.wr W43 (Or.inr sz_b37)
    have zp43 : n0 ≤ h43.size := Nat.le_trans Z0 kk43.1
    have A43v : own_IA Z h43 b37 [x0, x1, x2, (0 : Int32), (0 : Int32)] := A43
    refine own_go (fun tgt cont => st43 tgt cont) ?_
    show own_Go p e below s (Q_rm2 Z a p1 w0 w1 w2 w3 w4 h0 n0) 2 10 (T43.setTop (mkF m 208 #[.val (.ref a), .val (.int p1), .val (.ref b1), .val (.int (5 : Int32))] [(.ref b37)]))
    have f44 := (f42.other W43 ne_b1_b37)
    refine own_go (B := T43.setTop (mkF m 213 #[.val (.ref a), .val (.int p1), .val (.ref b1), .val (.int (5 : Int32))] [(.int x3), (.int (3 : Int32)), (.ref b37), (.ref b37)])) (fun tgt cont => ?_) ?_
    · refine XS.dup X43.here hx rfl (hb hby d2_208) rfl rfl ?_
      refine XT.iconstV X43.here hx rfl (3 : Int32) (hb hby d2_209) rfl ?_
      refine XS.aloadN X43.here hx rfl (hb hby d2_210) rfl rfl ?_
      refine XT.iconstV X43.here hx rfl (3 : Int32) (hb hby d2_211) rfl ?_
      refine own_ldIA X43 hx hZ e43 f44 (j := (3 : Int32)) ⟨by decide, Nat.le_of_ble_eq_true rfl⟩ (g := (mkF m 212 #[.val (.ref a), .val (.int p1), .val (.ref b1), .val (.int (5 : Int32))] [(.int (3 : Int32)), (.ref b1), (.int (3 : Int32)), (.ref b37), (.ref b37)])) rfl rfl (hb hby d2_212) ?_
      exact cont
    obtain ⟨T45, h45, X45, e45, W45, A45, st45⟩ := own_stIA X43 hx hZ e43 A43v (j := (3 : Int32)) (x := x3) ⟨by decide, Nat.le_of_ble_eq_true rfl⟩ (g := (mkF m 213 #[.val (.ref a), .val (.int p1), .val (.ref b1), .val (.int (5 : Int32))] [(.int x3), (.int (3 : Int32)), (.ref b37), (.ref b37)])) rfl rfl (hb hby d2_213)
    have N45 := Fr.snoc X45 N43 g_b37
    have kk45 : Keep h0 h45 [] := kk43.wr W45 (Or.inr sz_b37)
    have zp45 : n0 ≤ h45.size := Nat.le_trans Z0 kk45.1
    have A45v : own_IA Z h45 b37 [x0, x1, x2, x3, (0 : Int32)] := A45
    refine own_go (fun tgt cont => st45 tgt cont) ?_
    show own_Go p e below s (Q_rm2 Z a p1 w0 w1 w2 w3 w4 h0 n0) 2 10 (T45.setTop (mkF m 214 #[.val (.ref a), .val (.int p1), .val (.ref b1), .val (.int (5 : Int32))] [(.ref b37)]))
    have f46 := (f44.other W45 ne_b1_b37)
    refine own_go (B := T45.setTop (mkF m 219 #[.val (.ref a), .val (.int p1), .val (.ref b1), .val (.int (5 : Int32))] [(.int x4), (.int (4 : Int32)), (.ref b37), (.ref b37)])) (fun tgt cont => ?_) ?_
    · refine XS.dup X45.here hx rfl (hb hby d2_214) rfl rfl ?_
      refine XT.iconstV X45.here hx rfl (4 : Int32) (hb hby d2_215) rfl ?_
      refine XS.aloadN X45.here hx rfl (hb hby d2_216) rfl rfl ?_
      refine XT.iconstV X45.here hx rfl (4 : Int32) (hb hby d2_217) rfl ?_
      refine own_ldIA X45 hx hZ e45 f46 (j := (4 : Int32)) ⟨by decide, Nat.le_of_ble_eq_true rfl⟩ (g := (mkF m 218 #[.val (.ref a), .val (.int p1), .val (.ref b1), .val (.int (5 : Int32))] [(.int (4 : Int32)), (.ref b1), (.int (4 : Int32)), (.ref b37), (.ref b37)])) rfl rfl (hb hby d2_218) ?_
      exact cont
    obtain ⟨T47, h47, X47, e47, W47, A47, st47⟩ := own_stIA X45 hx hZ e45 A45v (j := (4 : Int32)) (x := x4) ⟨by decide, Nat.le_of_ble_eq_true rfl⟩ (g := (mkF m 219 #[.val (.ref a), .val (.int p1), .val (.ref b1), .val (.int (5 : Int32))] [(.int x4), (.int (4 : Int32)), (.ref b37), (.ref b37)])) rfl rfl (hb hby d2_219)
    have N47 := Fr.snoc X47 N45 g_b37
    have kk47 : Keep h0 h47 [] := kk45.wr W47 (Or.inr sz_b37)
    have zp47 : n0 ≤ h47.size := Nat.le_trans Z0 kk47.1
    have A47v : own_IA Z h47 b37 [x0, x1, x2, x3, x4] := A47
    refine own_go (fun tgt cont => st47 tgt cont) ?_
    show own_Go p e below s (Q_rm2 Z a p1 w0 w1 w2 w3 w4 h0 n0) 2 10 (T47.setTop (mkF m 220 #[.val (.ref a), .val (.int p1), .val (.ref b1), .val (.int (5 : Int32))] [(.ref b37)]))
    refine own_end X47 (v := some (.ref b37)) (fun h => by rw [Bd.returns] at h; cases h) hlk ?_ (by decide) (by decide) (fun fs hl => retOut X47 hx Bd.returns rfl (Or.inr (Or.inr (Or.inr (Or.inr ⟨rfl, rfl, rfl⟩)))) (hb hby d2_220) hl)
    have f48 := (((((AE37.wr W39).wr W41).wr W43).wr W45).wr W47)
    rw [e47]
    exact ⟨_, rfl, N47, kk47, sz_b37, (by rw [hL5]; exact A47v), f48⟩
  refine own_go (B := T1.setTop (mkF m 9 #[.val (.ref a), .val (.int p1), .val (.ref b1), .val (.int (0 : Int32))] [(.int (p1 &&& (1 : Int32)))])) (fun tgt cont => ?_) ?_
  · refine XS.iloadN X1.here hx rfl (hb hby d2_6) rfl ?_
    refine XT.iconstV X1.here hx rfl (1 : Int32) (hb hby d2_7) rfl ?_
    refine XS.iand X1.here hx rfl (hb hby d2_8) rfl ?_
    exact cont
  by_cases hc49 : (p1 &&& (1 : Int32)) = 0
  ·
    refine own_go (B := T1.setTop (mkF m 24 #[.val (.ref a), .val (.int p1), .val (.ref b1), .val (.int (0 : Int32))] [(.int (p1 &&& (2 : Int32)))])) (fun tgt cont => ?_) ?_
    · refine XS.ifYes X1.here hx rfl (pc0 := 9) (pc' := 21) rfl (hb hby d2_9) rfl (XT.i0_eq_t hc49) (by decide) (by decide) ?_
      refine XS.iloadN X1.here hx rfl (hb hby d2_21) rfl ?_
      refine XT.iconstV X1.here hx rfl (2 : Int32) (hb hby d2_22) rfl ?_
      refine XS.iand X1.here hx rfl (hb hby d2_23) rfl ?_
      exact cont
    by_cases hc50 : (p1 &&& (2 : Int32)) = 0
    ·
      refine own_go (B := T1.setTop (mkF m 39 #[.val (.ref a), .val (.int p1), .val (.ref b1), .val (.int (0 : Int32))] [(.int (p1 &&& (4 : Int32)))])) (fun tgt cont => ?_) ?_
      · refine XS.ifYes X1.here hx rfl (pc0 := 24) (pc' := 36) rfl (hb hby d2_24) rfl (XT.i0_eq_t hc50) (by decide) (by decide) ?_
        refine XS.iloadN X1.here hx rfl (hb hby d2_36) rfl ?_
        refine XT.iconstV X1.here hx rfl (4 : Int32) (hb hby d2_37) rfl ?_
        refine XS.iand X1.here hx rfl (hb hby d2_38) rfl ?_
        exact cont
      by_cases hc51 : (p1 &&& (4 : Int32)) = 0
      ·
        refine own_go (B := T1.setTop (mkF m 55 #[.val (.ref a), .val (.int p1), .val (.ref b1), .val (.int (0 : Int32))] [(.int (p1 &&& (8 : Int32)))])) (fun tgt cont => ?_) ?_
        · refine XS.ifYes X1.here hx rfl (pc0 := 39) (pc' := 51) rfl (hb hby d2_39) rfl (XT.i0_eq_t hc51) (by decide) (by decide) ?_
          refine XS.iloadN X1.here hx rfl (hb hby d2_51) rfl ?_
          refine XT.bipushV X1.here hx rfl (8 : Int32) (hb hby d2_52) rfl ?_
          refine XS.iand X1.here hx rfl (hb hby d2_54) rfl ?_
          exact cont
        by_cases hc52 : (p1 &&& (8 : Int32)) = 0
        ·
          refine own_go (B := T1.setTop (mkF m 71 #[.val (.ref a), .val (.int p1), .val (.ref b1), .val (.int (0 : Int32))] [(.int (p1 &&& (16 : Int32)))])) (fun tgt cont => ?_) ?_
          · refine XS.ifYes X1.here hx rfl (pc0 := 55) (pc' := 67) rfl (hb hby d2_55) rfl (XT.i0_eq_t hc52) (by decide) (by decide) ?_
            refine XS.iloadN X1.here hx rfl (hb hby d2_67) rfl ?_
            refine XT.bipushV X1.here hx rfl (16 : Int32) (hb hby d2_68) rfl ?_
            refine XS.iand X1.here hx rfl (hb hby d2_70) rfl ?_
            exact cont
          by_cases hc53 : (p1 &&& (16 : Int32)) = 0
          ·
            refine own_go (B := T1.setTop (mkF m 83 #[.val (.ref a), .val (.int p1), .val (.ref b1), .val (.int (0 : Int32))] [])) (fun tgt cont => ?_) ?_
            · refine XS.ifYes X1.here hx rfl (pc0 := 71) (pc' := 83) rfl (hb hby d2_71) rfl (XT.i0_eq_t hc53) (by decide) (by decide) ?_
              exact cont
            exact KP0 _ _ _  (own_wide X1 (by decide) (by decide)) e1 N0 kk1 A1v (by unfold own_pick; simp only [if_pos hc49, if_pos hc50, if_pos hc51, if_pos hc52, if_pos hc53, List.nil_append, List.append_nil, List.cons_append])
          ·
            have f54 := (A_a.ext E1)
            refine own_go (B := T1.setTop (mkF m 79 #[.val (.ref a), .val (.int p1), .val (.ref b1), .val (.int (0 : Int32))] [(.int w4), (.int (0 : Int32)), (.ref b1)])) (fun tgt cont => ?_) ?_
            · refine XS.ifNo X1.here hx rfl (hb hby d2_71) rfl (XT.i0_eq_f hc53) ?_
              refine XS.aloadN X1.here hx rfl (hb hby d2_74) rfl rfl ?_
              refine XS.iloadN X1.here hx rfl (hb hby d2_75) rfl ?_
              refine XS.aloadN X1.here hx rfl (hb hby d2_76) rfl rfl ?_
              refine XT.iconstV X1.here hx rfl (4 : Int32) (hb hby d2_77) rfl ?_
              refine own_ldIA X1 hx hZ e1 f54 (j := (4 : Int32)) ⟨by decide, Nat.le_of_ble_eq_true rfl⟩ (g := (mkF m 78 #[.val (.ref a), .val (.int p1), .val (.ref b1), .val (.int (0 : Int32))] [(.int (4 : Int32)), (.ref a), (.int (0 : Int32)), (.ref b1)])) rfl rfl (hb hby d2_78) ?_
              exact cont
            obtain ⟨T55, h55, X55, e55, W55, A55, st55⟩ := own_stIA X1 hx hZ e1 A1v (j := (0 : Int32)) (x := w4) ⟨by decide, Nat.le_of_ble_eq_true rfl⟩ (g := (mkF m 79 #[.val (.ref a), .val (.int p1), .val (.ref b1), .val (.int (0 : Int32))] [(.int w4), (.int (0 : Int32)), (.ref b1)])) rfl rfl (hb hby d2_79)
            have N55 := Fr.snoc X55 N0 g_b1
            have kk55 : Keep h0 h55 [] := kk1.wr W55 (Or.inr sz_b1)
            have zp55 : n0 ≤ h55.size := Nat.le_trans Z0 kk55.1
            have A55v : own_IA Z h55 b1 [w4, (0 : Int32), (0 : Int32), (0 : Int32), (0 : Int32)] := A55
            refine own_go (fun tgt cont => st55 tgt cont) ?_
            show own_Go p e below s (Q_rm2 Z a p1 w0 w1 w2 w3 w4 h0 n0) 2 10 (T55.setTop (mkF m 80 #[.val (.ref a), .val (.int p1), .val (.ref b1), .val (.int (0 : Int32))] []))
            refine own_go (B := T55.setTop (mkF m 83 #[.val (.ref a), .val (.int p1), .val (.ref b1), .val (.int (1 : Int32))] [])) (fun tgt cont => ?_) ?_
            · refine XT.iincV X55.here hx rfl (1 : Int32) (hb hby d2_80) rfl rfl (l' := #[.val (.ref a), .val (.int p1), .val (.ref b1), .val (.int (1 : Int32))]) rfl ?_
              exact cont
            exact KP1 _ _ _ (w4) (own_wide X55 (by decide) (by decide)) e55 N55 kk55 A55v (by unfold own_pick; simp only [if_pos hc49, if_pos hc50, if_pos hc51, if_pos hc52, if_neg hc53, List.nil_append, List.append_nil, List.cons_append])
        ·
          have f56 := (A_a.ext E1)
          refine own_go (B := T1.setTop (mkF m 63 #[.val (.ref a), .val (.int p1), .val (.ref b1), .val (.int (0 : Int32))] [(.int w3), (.int (0 : Int32)), (.ref b1)])) (fun tgt cont => ?_) ?_
          · refine XS.ifNo X1.here hx rfl (hb hby d2_55) rfl (XT.i0_eq_f hc52) ?_
            refine XS.aloadN X1.here hx rfl (hb hby d2_58) rfl rfl ?_
            refine XS.iloadN X1.here hx rfl (hb hby d2_59) rfl ?_
            refine XS.aloadN X1.here hx rfl (hb hby d2_60) rfl rfl ?_
            refine XT.iconstV X1.here hx rfl (3 : Int32) (hb hby d2_61) rfl ?_
            refine own_ldIA X1 hx hZ e1 f56 (j := (3 : Int32)) ⟨by decide, Nat.le_of_ble_eq_true rfl⟩ (g := (mkF m 62 #[.val (.ref a), .val (.int p1), .val (.ref b1), .val (.int (0 : Int32))] [(.int (3 : Int32)), (.ref a), (.int (0 : Int32)), (.ref b1)])) rfl rfl (hb hby d2_62) ?_
            exact cont
          obtain ⟨T57, h57, X57, e57, W57, A57, st57⟩ := own_stIA X1 hx hZ e1 A1v (j := (0 : Int32)) (x := w3) ⟨by decide, Nat.le_of_ble_eq_true rfl⟩ (g := (mkF m 63 #[.val (.ref a), .val (.int p1), .val (.ref b1), .val (.int (0 : Int32))] [(.int w3), (.int (0 : Int32)), (.ref b1)])) rfl rfl (hb hby d2_63)
          have N57 := Fr.snoc X57 N0 g_b1
          have kk57 : Keep h0 h57 [] := kk1.wr W57 (Or.inr sz_b1)
          have zp57 : n0 ≤ h57.size := Nat.le_trans Z0 kk57.1
          have A57v : own_IA Z h57 b1 [w3, (0 : Int32), (0 : Int32), (0 : Int32), (0 : Int32)] := A57
          refine own_go (fun tgt cont => st57 tgt cont) ?_
          show own_Go p e below s (Q_rm2 Z a p1 w0 w1 w2 w3 w4 h0 n0) 2 10 (T57.setTop (mkF m 64 #[.val (.ref a), .val (.int p1), .val (.ref b1), .val (.int (0 : Int32))] []))
          refine own_go (B := T57.setTop (mkF m 71 #[.val (.ref a), .val (.int p1), .val (.ref b1), .val (.int (1 : Int32))] [(.int (p1 &&& (16 : Int32)))])) (fun tgt cont => ?_) ?_
          · refine XT.iincV X57.here hx rfl (1 : Int32) (hb hby d2_64) rfl rfl (l' := #[.val (.ref a), .val (.int p1), .val (.ref b1), .val (.int (1 : Int32))]) rfl ?_
            refine XS.iloadN X57.here hx rfl (hb hby d2_67) rfl ?_
            refine XT.bipushV X57.here hx rfl (16 : Int32) (hb hby d2_68) rfl ?_
            refine XS.iand X57.here hx rfl (hb hby d2_70) rfl ?_
            exact cont
          by_cases hc58 : (p1 &&& (16 : Int32)) = 0
          ·
            refine own_go (B := T57.setTop (mkF m 83 #[.val (.ref a), .val (.int p1), .val (.ref b1), .val (.int (1 : Int32))] [])) (fun tgt cont => ?_) ?_
            · refine XS.ifYes X57.here hx rfl (pc0 := 71) (pc' := 83) rfl (hb hby d2_71) rfl (XT.i0_eq_t hc58) (by decide) (by decide) ?_
              exact cont
            exact KP1 _ _ _ (w3) (own_wide X57 (by decide) (by decide)) e57 N57 kk57 A57v (by unfold own_pick; simp only [if_pos hc49, if_pos hc50, if_pos hc51, if_neg hc52, if_pos hc58, List.nil_append, List.append_nil, List.cons_append])
          ·
            have f59 := (f56.other W57 ne_a_b1)
            refine own_go (B := T57.setTop (mkF m 79 #[.val (.ref a), .val (.int p1), .val (.ref b1), .val (.int (1 : Int32))] [(.int w4), (.int (1 : Int32)), (.ref b1)])) (fun tgt cont => ?_) ?_
            · refine XS.ifNo X57.here hx rfl (hb hby d2_71) rfl (XT.i0_eq_f hc58) ?_
              refine XS.aloadN X57.here hx rfl (hb hby d2_74) rfl rfl ?_
              refine XS.iloadN X57.here hx rfl (hb hby d2_75) rfl ?_
              refine XS.aloadN X57.here hx rfl (hb hby d2_76) rfl rfl ?_
              refine XT.iconstV X57.here hx rfl (4 : Int32) (hb hby d2_77) rfl ?_
              refine own_ldIA X57 hx hZ e57 f59 (j := (4 : Int32)) ⟨by decide, Nat.le_of_ble_eq_true rfl⟩ (g := (mkF m 78 #[.val (.ref a), .val (.int p1), .val (.ref b1), .val (.int (1 : Int32))] [(.int (4 : Int32)), (.ref a), (.int (1 : Int32)), (.ref b1)])) rfl rfl (hb hby d2_78) ?_
              exact cont
            obtain ⟨T60, h60, X60, e60, W60, A60, st60⟩ := own_stIA X57 hx hZ e57 A57v (j := (1 : Int32)) (x := w4) ⟨by decide, Nat.le_of_ble_eq_true rfl⟩ (g := (mkF m 79 #[.val (.ref a), .val (.int p1), .val (.ref b1), .val (.int (1 : Int32))] [(.int w4), (.int (1 : Int32)), (.ref b1)])) rfl rfl (hb hby d2_79)
            have N60 := Fr.snoc X60 N57 g_b1
            have kk60 : Keep h0 h60 [] := kk57.wr W60 (Or.inr sz_b1)
            have zp60 : n0 ≤ h60.size := Nat.le_trans Z0 kk60.1
            have A60v : own_IA Z h60 b1 [w3, w4, (0 : Int32), (0 : Int32), (0 : Int32)] := A60
            refine own_go (fun tgt cont => st60 tgt cont) ?_
            show own_Go p e below s (Q_rm2 Z a p1 w0 w1 w2 w3 w4 h0 n0) 2 10 (T60.setTop (mkF m 80 #[.val (.ref a), .val (.int p1), .val (.ref b1), .val (.int (1 : Int32))] []))
            refine own_go (B := T60.setTop (mkF m 83 #[.val (.ref a), .val (.int p1), .val (.ref b1), .val (.int (2 : Int32))] [])) (fun tgt cont => ?_) ?_
            · refine XT.iincV X60.here hx rfl (1 : Int32) (hb hby d2_80) rfl rfl (l' := #[.val (.ref a), .val (.int p1), .val (.ref b1), .val (.int (2 : Int32))]) rfl ?_
              exact cont
            exact KP2 _ _ _ (w3) (w4) (own_wide X60 (by decide) (by decide)) e60 N60 kk60 A60v (by unfold own_pick; simp only [if_pos hc49, if_pos hc50, if_pos hc51, if_neg hc52, if_neg hc58, List.nil_append, List.append_nil, List.cons_append])
      ·
        have f61 := (A_a.ext E1)
        refine own_go (B := T1.setTop (mkF m 47 #[.val (.ref a), .val (.int p1), .val (.ref b1), .val (.int (0 : Int32))] [(.int w2), (.int (0 : Int32)), (.ref b1)])) (fun tgt cont => ?_) ?_
        · refine XS.ifNo X1.here hx rfl (hb hby d2_39) rfl (XT.i0_eq_f hc51) ?_
          refine XS.aloadN X1.here hx rfl (hb hby d2_42) rfl rfl ?_
          refine XS.iloadN X1.here hx rfl (hb hby d2_43) rfl ?_
          refine XS.aloadN X1.here hx rfl (hb hby d2_44) rfl rfl ?_
          refine XT.iconstV X1.here hx rfl (2 : Int32) (hb hby d2_45) rfl ?_
          refine own_ldIA X1 hx hZ e1 f61 (j := (2 : Int32)) ⟨by decide, Nat.le_of_ble_eq_true rfl⟩ (g := (mkF m 46 #[.val (.ref a), .val (.int p1), .val (.ref b1), .val (.int (0 : Int32))] [(.int (2 : Int32)), (.ref a), (.int (0 : Int32)), (.ref b1)])) rfl rfl (hb hby d2_46) ?_
          exact cont
        obtain ⟨T62, h62, X62, e62, W62, A62, st62⟩ := own_stIA X1 hx hZ e1 A1v (j := (0 : Int32)) (x := w2) ⟨by decide, Nat.le_of_ble_eq_true rfl⟩ (g := (mkF m 47 #[.val (.ref a), .val (.int p1), .val (.ref b1), .val (.int (0 : Int32))] [(.int w2), (.int (0 : Int32)), (.ref b1)])) rfl rfl (hb hby d2_47)
        have N62 := Fr.snoc X62 N0 g_b1
        have kk62 : Keep h0 h62 [] := kk1.wr W62 (Or.inr sz_b1)
        have zp62 : n0 ≤ h62.size := Nat.le_trans Z0 kk62.1
        have A62v : own_IA Z h62 b1 [w2, (0 : Int32), (0 : Int32), (0 : Int32), (0 : Int32)] := A62
        refine own_go (fun tgt cont => st62 tgt cont) ?_
        show own_Go p e below s (Q_rm2 Z a p1 w0 w1 w2 w3 w4 h0 n0) 2 10 (T62.setTop (mkF m 48 #[.val (.ref a), .val (.int p1), .val (.ref b1), .val (.int (0 : Int32))] []))
        refine own_go (B := T62.setTop (mkF m 55 #[.val (.ref a), .val (.int p1), .val (.ref b1), .val (.int (1 : Int32))] [(.int (p1 &&& (8 : Int32)))])) (fun tgt cont => ?_) ?_
        · refine XT.iincV X62.here hx rfl (1 : Int32) (hb hby d2_48) rfl rfl (l' := #[.val (.ref a), .val (.int p1), .val (.ref b1), .val (.int (1 : Int32))]) rfl ?_
          refine XS.iloadN X62.here hx rfl (hb hby d2_51) rfl ?_
          refine XT.bipushV X62.here hx rfl (8 : Int32) (hb hby d2_52) rfl ?_
          refine XS.iand X62.here hx rfl (hb hby d2_54) rfl ?_
          exact cont
        by_cases hc63 : (p1 &&& (8 : Int32)) = 0
        ·
          refine own_go (B := T62.setTop (mkF m 71 #[.val (.ref a), .val (.int p1), .val (.ref b1), .val (.int (1 : Int32))] [(.int (p1 &&& (16 : Int32)))])) (fun tgt cont => ?_) ?_
          · refine XS.ifYes X62.here hx rfl (pc0 := 55) (pc' := 67) rfl (hb hby d2_55) rfl (XT.i0_eq_t hc63) (by decide) (by decide) ?_
            refine XS.iloadN X62.here hx rfl (hb hby d2_67) rfl ?_
            refine XT.bipushV X62.here hx rfl (16 : Int32) (hb hby d2_68) rfl ?_
            refine XS.iand X62.here hx rfl (hb hby d2_70) rfl ?_
            exact cont
          by_cases hc64 : (p1 &&& (16 : Int32)) = 0
          ·
            refine own_go (B := T62.setTop (mkF m 83 #[.val (.ref a), .val (.int p1), .val (.ref b1), .val (.int (1 : Int32))] [])) (fun tgt cont => ?_) ?_
            · refine XS.ifYes X62.here hx rfl (pc0 := 71) (pc' := 83) rfl (hb hby d2_71) rfl (XT.i0_eq_t hc64) (by decide) (by decide) ?_
              exact cont
            exact KP1 _ _ _ (w2) (own_wide X62 (by decide) (by decide)) e62 N62 kk62 A62v (by unfold own_pick; simp only [if_pos hc49, if_pos hc50, if_neg hc51, if_pos hc63, if_pos hc64, List.nil_append, List.append_nil, List.cons_append])
          ·
            have f65 := (f61.other W62 ne_a_b1)
            refine own_go (B := T62.setTop (mkF m 79 #[.val (.ref a), .val (.int p1), .val (.ref b1), .val (.int (1 : Int32))] [(.int w4), (.int (1 : Int32)), (.ref b1)])) (fun tgt cont => ?_) ?_
            · refine XS.ifNo X62.here hx rfl (hb hby d2_71) rfl (XT.i0_eq_f hc64) ?_
              refine XS.aloadN X62.here hx rfl (hb hby d2_74) rfl rfl ?_
              refine XS.iloadN X62.here hx rfl (hb hby d2_75) rfl ?_
              refine XS.aloadN X62.here hx rfl (hb hby d2_76) rfl rfl ?_
              refine XT.iconstV X62.here hx rfl (4 : Int32) (hb hby d2_77) rfl ?_
              refine own_ldIA X62 hx hZ e62 f65 (j := (4 : Int32)) ⟨by decide, Nat.le_of_ble_eq_true rfl⟩ (g := (mkF m 78 #[.val (.ref a), .val (.int p1), .val (.ref b1), .val (.int (1 : Int32))] [(.int (4 : Int32)), (.ref a), (.int (1 : Int32)), (.ref b1)])) rfl rfl (hb hby d2_78) ?_
              exact cont
            obtain ⟨T66, h66, X66, e66, W66, A66, st66⟩ := own_stIA X62 hx hZ e62 A62v (j := (1 : Int32)) (x := w4) ⟨by decide, Nat.le_of_ble_eq_true rfl⟩ (g := (mkF m 79 #[.val (.ref a), .val (.int p1), .val (.ref b1), .val (.int (1 : Int32))] [(.int w4), (.int (1 : Int32)), (.ref b1)])) rfl rfl (hb hby d2_79)
            have N66 := Fr.snoc X66 N62 g_b1
            have kk66 : Keep h0 h66 [] := kk62.wr W66 (Or.inr sz_b1)
            have zp66 : n0 ≤ h66.size := Nat.le_trans Z0 kk66.1
            have A66v : own_IA Z h66 b1 [w2, w4, (0 : Int32), (0 : Int32), (0 : Int32)] := A66
            refine own_go (fun tgt cont => st66 tgt cont) ?_
            show own_Go p e below s (Q_rm2 Z a p1 w0 w1 w2 w3 w4 h0 n0) 2 10 (T66.setTop (mkF m 80 #[.val (.ref a), .val (.int p1), .val (.ref b1), .val (.int (1 : Int32))] []))
            refine own_go (B := T66.setTop (mkF m 83 #[.val (.ref a), .val (.int p1), .val (.ref b1), .val (.int (2 : Int32))] [])) (fun tgt cont => ?_) ?_
            · refine XT.iincV X66.here hx rfl (1 : Int32) (hb hby d2_80) rfl rfl (l' := #[.val (.ref a), .val (.int p1), .val (.ref b1), .val (.int (2 : Int32))]) rfl ?_
              exact cont
            exact KP2 _ _ _ (w2) (w4) (own_wide X66 (by decide) (by decide)) e66 N66 kk66 A66v (by unfold own_pick; simp only [if_pos hc49, if_pos hc50, if_neg hc51, if_pos hc63, if_neg hc64, List.nil_append, List.append_nil, List.cons_append])
        ·
          have f67 := (f61.other W62 ne_a_b1)
          refine own_go (B := T62.setTop (mkF m 63 #[.val (.ref a), .val (.int p1), .val (.ref b1), .val (.int (1 : Int32))] [(.int w3), (.int (1 : Int32)), (.ref b1)])) (fun tgt cont => ?_) ?_
          · refine XS.ifNo X62.here hx rfl (hb hby d2_55) rfl (XT.i0_eq_f hc63) ?_
            refine XS.aloadN X62.here hx rfl (hb hby d2_58) rfl rfl ?_
            refine XS.iloadN X62.here hx rfl (hb hby d2_59) rfl ?_
            refine XS.aloadN X62.here hx rfl (hb hby d2_60) rfl rfl ?_
            refine XT.iconstV X62.here hx rfl (3 : Int32) (hb hby d2_61) rfl ?_
            refine own_ldIA X62 hx hZ e62 f67 (j := (3 : Int32)) ⟨by decide, Nat.le_of_ble_eq_true rfl⟩ (g := (mkF m 62 #[.val (.ref a), .val (.int p1), .val (.ref b1), .val (.int (1 : Int32))] [(.int (3 : Int32)), (.ref a), (.int (1 : Int32)), (.ref b1)])) rfl rfl (hb hby d2_62) ?_
            exact cont
          obtain ⟨T68, h68, X68, e68, W68, A68, st68⟩ := own_stIA X62 hx hZ e62 A62v (j := (1 : Int32)) (x := w3) ⟨by decide, Nat.le_of_ble_eq_true rfl⟩ (g := (mkF m 63 #[.val (.ref a), .val (.int p1), .val (.ref b1), .val (.int (1 : Int32))] [(.int w3), (.int (1 : Int32)), (.ref b1)])) rfl rfl (hb hby d2_63)
          have N68 := Fr.snoc X68 N62 g_b1
          have kk68 : Keep h0 h68 [] := kk62.wr W68 (Or.inr sz_b1)
          have zp68 : n0 ≤ h68.size := Nat.le_trans Z0 kk68.1
          have A68v : own_IA Z h68 b1 [w2, w3, (0 : Int32), (0 : Int32), (0 : Int32)] := A68
          refine own_go (fun tgt cont => st68 tgt cont) ?_
          show own_Go p e below s (Q_rm2 Z a p1 w0 w1 w2 w3 w4 h0 n0) 2 10 (T68.setTop (mkF m 64 #[.val (.ref a), .val (.int p1), .val (.ref b1), .val (.int (1 : Int32))] []))
          refine own_go (B := T68.setTop (mkF m 71 #[.val (.ref a), .val (.int p1), .val (.ref b1), .val (.int (2 : Int32))] [(.int (p1 &&& (16 : Int32)))])) (fun tgt cont => ?_) ?_
          · refine XT.iincV X68.here hx rfl (1 : Int32) (hb hby d2_64) rfl rfl (l' := #[.val (.ref a), .val (.int p1), .val (.ref b1), .val (.int (2 : Int32))]) rfl ?_
            refine XS.iloadN X68.here hx rfl (hb hby d2_67) rfl ?_
            refine XT.bipushV X68.here hx rfl (16 : Int32) (hb hby d2_68) rfl ?_
            refine XS.iand X68.here hx rfl (hb hby d2_70) rfl ?_
            exact cont
          by_cases hc69 : (p1 &&& (16 : Int32)) = 0
          ·
            refine own_go (B := T68.setTop (mkF m 83 #[.val (.ref a), .val (.int p1), .val (.ref b1), .val (.int (2 : Int32))] [])) (fun tgt cont => ?_) ?_
            · refine XS.ifYes X68.here hx rfl (pc0 := 71) (pc' := 83) rfl (hb hby d2_71) rfl (XT.i0_eq_t hc69) (by decide) (by decide) ?_
              exact cont
            exact KP2 _ _ _ (w2) (w3) (own_wide X68 (by decide) (by decide)) e68 N68 kk68 A68v (by unfold own_pick; simp only [if_pos hc49, if_pos hc50, if_neg hc51, if_neg hc63, if_pos hc69, List.nil_append, List.append_nil, List.cons_append])
          ·
            have f70 := (f67.other W68 ne_a_b1)
            refine own_go (B := T68.setTop (mkF m 79 #[.val (.ref a), .val (.int p1), .val (.ref b1), .val (.int (2 : Int32))] [(.int w4), (.int (2 : Int32)), (.ref b1)])) (fun tgt cont => ?_) ?_
            · refine XS.ifNo X68.here hx rfl (hb hby d2_71) rfl (XT.i0_eq_f hc69) ?_
              refine XS.aloadN X68.here hx rfl (hb hby d2_74) rfl rfl ?_
              refine XS.iloadN X68.here hx rfl (hb hby d2_75) rfl ?_
              refine XS.aloadN X68.here hx rfl (hb hby d2_76) rfl rfl ?_
              refine XT.iconstV X68.here hx rfl (4 : Int32) (hb hby d2_77) rfl ?_
              refine own_ldIA X68 hx hZ e68 f70 (j := (4 : Int32)) ⟨by decide, Nat.le_of_ble_eq_true rfl⟩ (g := (mkF m 78 #[.val (.ref a), .val (.int p1), .val (.ref b1), .val (.int (2 : Int32))] [(.int (4 : Int32)), (.ref a), (.int (2 : Int32)), (.ref b1)])) rfl rfl (hb hby d2_78) ?_
              exact cont
            obtain ⟨T71, h71, X71, e71, W71, A71, st71⟩ := own_stIA X68 hx hZ e68 A68v (j := (2 : Int32)) (x := w4) ⟨by decide, Nat.le_of_ble_eq_true rfl⟩ (g := (mkF m 79 #[.val (.ref a), .val (.int p1), .val (.ref b1), .val (.int (2 : Int32))] [(.int w4), (.int (2 : Int32)), (.ref b1)])) rfl rfl (hb hby d2_79)
            have N71 := Fr.snoc X71 N68 g_b1
            have kk71 : Keep h0 h71 [] := kk68.wr W71 (Or.inr sz_b1)
            have zp71 : n0 ≤ h71.size := Nat.le_trans Z0 kk71.1
            have A71v : own_IA Z h71 b1 [w2, w3, w4, (0 : Int32), (0 : Int32)] := A71
            refine own_go (fun tgt cont => st71 tgt cont) ?_
            show own_Go p e below s (Q_rm2 Z a p1 w0 w1 w2 w3 w4 h0 n0) 2 10 (T71.setTop (mkF m 80 #[.val (.ref a), .val (.int p1), .val (.ref b1), .val (.int (2 : Int32))] []))
            refine own_go (B := T71.setTop (mkF m 83 #[.val (.ref a), .val (.int p1), .val (.ref b1), .val (.int (3 : Int32))] [])) (fun tgt cont => ?_) ?_
            · refine XT.iincV X71.here hx rfl (1 : Int32) (hb hby d2_80) rfl rfl (l' := #[.val (.ref a), .val (.int p1), .val (.ref b1), .val (.int (3 : Int32))]) rfl ?_
              exact cont
            exact KP3 _ _ _ (w2) (w3) (w4) (own_wide X71 (by decide) (by decide)) e71 N71 kk71 A71v (by unfold own_pick; simp only [if_pos hc49, if_pos hc50, if_neg hc51, if_neg hc63, if_neg hc69, List.nil_append, List.append_nil, List.cons_append])
    ·
      have f72 := (A_a.ext E1)
      refine own_go (B := T1.setTop (mkF m 32 #[.val (.ref a), .val (.int p1), .val (.ref b1), .val (.int (0 : Int32))] [(.int w1), (.int (0 : Int32)), (.ref b1)])) (fun tgt cont => ?_) ?_
      · refine XS.ifNo X1.here hx rfl (hb hby d2_24) rfl (XT.i0_eq_f hc50) ?_
        refine XS.aloadN X1.here hx rfl (hb hby d2_27) rfl rfl ?_
        refine XS.iloadN X1.here hx rfl (hb hby d2_28) rfl ?_
        refine XS.aloadN X1.here hx rfl (hb hby d2_29) rfl rfl ?_
        refine XT.iconstV X1.here hx rfl (1 : Int32) (hb hby d2_30) rfl ?_
        refine own_ldIA X1 hx hZ e1 f72 (j := (1 : Int32)) ⟨by decide, Nat.le_of_ble_eq_true rfl⟩ (g := (mkF m 31 #[.val (.ref a), .val (.int p1), .val (.ref b1), .val (.int (0 : Int32))] [(.int (1 : Int32)), (.ref a), (.int (0 : Int32)), (.ref b1)])) rfl rfl (hb hby d2_31) ?_
        exact cont
      obtain ⟨T73, h73, X73, e73, W73, A73, st73⟩ := own_stIA X1 hx hZ e1 A1v (j := (0 : Int32)) (x := w1) ⟨by decide, Nat.le_of_ble_eq_true rfl⟩ (g := (mkF m 32 #[.val (.ref a), .val (.int p1), .val (.ref b1), .val (.int (0 : Int32))] [(.int w1), (.int (0 : Int32)), (.ref b1)])) rfl rfl (hb hby d2_32)
      have N73 := Fr.snoc X73 N0 g_b1
      have kk73 : Keep h0 h73 [] := kk1.wr W73 (Or.inr sz_b1)
      have zp73 : n0 ≤ h73.size := Nat.le_trans Z0 kk73.1
      have A73v : own_IA Z h73 b1 [w1, (0 : Int32), (0 : Int32), (0 : Int32), (0 : Int32)] := A73
      refine own_go (fun tgt cont => st73 tgt cont) ?_
      show own_Go p e below s (Q_rm2 Z a p1 w0 w1 w2 w3 w4 h0 n0) 2 10 (T73.setTop (mkF m 33 #[.val (.ref a), .val (.int p1), .val (.ref b1), .val (.int (0 : Int32))] []))
      refine own_go (B := T73.setTop (mkF m 39 #[.val (.ref a), .val (.int p1), .val (.ref b1), .val (.int (1 : Int32))] [(.int (p1 &&& (4 : Int32)))])) (fun tgt cont => ?_) ?_
      · refine XT.iincV X73.here hx rfl (1 : Int32) (hb hby d2_33) rfl rfl (l' := #[.val (.ref a), .val (.int p1), .val (.ref b1), .val (.int (1 : Int32))]) rfl ?_
        refine XS.iloadN X73.here hx rfl (hb hby d2_36) rfl ?_
        refine XT.iconstV X73.here hx rfl (4 : Int32) (hb hby d2_37) rfl ?_
        refine XS.iand X73.here hx rfl (hb hby d2_38) rfl ?_
        exact cont
      by_cases hc74 : (p1 &&& (4 : Int32)) = 0
      ·
        refine own_go (B := T73.setTop (mkF m 55 #[.val (.ref a), .val (.int p1), .val (.ref b1), .val (.int (1 : Int32))] [(.int (p1 &&& (8 : Int32)))])) (fun tgt cont => ?_) ?_
        · refine XS.ifYes X73.here hx rfl (pc0 := 39) (pc' := 51) rfl (hb hby d2_39) rfl (XT.i0_eq_t hc74) (by decide) (by decide) ?_
          refine XS.iloadN X73.here hx rfl (hb hby d2_51) rfl ?_
          refine XT.bipushV X73.here hx rfl (8 : Int32) (hb hby d2_52) rfl ?_
          refine XS.iand X73.here hx rfl (hb hby d2_54) rfl ?_
          exact cont
        by_cases hc75 : (p1 &&& (8 : Int32)) = 0
        ·
          refine own_go (B := T73.setTop (mkF m 71 #[.val (.ref a), .val (.int p1), .val (.ref b1), .val (.int (1 : Int32))] [(.int (p1 &&& (16 : Int32)))])) (fun tgt cont => ?_) ?_
          · refine XS.ifYes X73.here hx rfl (pc0 := 55) (pc' := 67) rfl (hb hby d2_55) rfl (XT.i0_eq_t hc75) (by decide) (by decide) ?_
            refine XS.iloadN X73.here hx rfl (hb hby d2_67) rfl ?_
            refine XT.bipushV X73.here hx rfl (16 : Int32) (hb hby d2_68) rfl ?_
            refine XS.iand X73.here hx rfl (hb hby d2_70) rfl ?_
            exact cont
          by_cases hc76 : (p1 &&& (16 : Int32)) = 0
          ·
            refine own_go (B := T73.setTop (mkF m 83 #[.val (.ref a), .val (.int p1), .val (.ref b1), .val (.int (1 : Int32))] [])) (fun tgt cont => ?_) ?_
            · refine XS.ifYes X73.here hx rfl (pc0 := 71) (pc' := 83) rfl (hb hby d2_71) rfl (XT.i0_eq_t hc76) (by decide) (by decide) ?_
              exact cont
            exact KP1 _ _ _ (w1) (own_wide X73 (by decide) (by decide)) e73 N73 kk73 A73v (by unfold own_pick; simp only [if_pos hc49, if_neg hc50, if_pos hc74, if_pos hc75, if_pos hc76, List.nil_append, List.append_nil, List.cons_append])
          ·
            have f77 := (f72.other W73 ne_a_b1)
            refine own_go (B := T73.setTop (mkF m 79 #[.val (.ref a), .val (.int p1), .val (.ref b1), .val (.int (1 : Int32))] [(.int w4), (.int (1 : Int32)), (.ref b1)])) (fun tgt cont => ?_) ?_
            · refine XS.ifNo X73.here hx rfl (hb hby d2_71) rfl (XT.i0_eq_f hc76) ?_
              refine XS.aloadN X73.here hx rfl (hb hby d2_74) rfl rfl ?_
              refine XS.iloadN X73.here hx rfl (hb hby d2_75) rfl ?_
              refine XS.aloadN X73.here hx rfl (hb hby d2_76) rfl rfl ?_
              refine XT.iconstV X73.here hx rfl (4 : Int32) (hb hby d2_77) rfl ?_
              refine own_ldIA X73 hx hZ e73 f77 (j := (4 : Int32)) ⟨by decide, Nat.le_of_ble_eq_true rfl⟩ (g := (mkF m 78 #[.val (.ref a), .val (.int p1), .val (.ref b1), .val (.int (1 : Int32))] [(.int (4 : Int32)), (.ref a), (.int (1 : Int32)), (.ref b1)])) rfl rfl (hb hby d2_78) ?_
              exact cont
            obtain ⟨T78, h78, X78, e78, W78, A78, st78⟩ := own_stIA X73 hx hZ e73 A73v (j := (1 : Int32)) (x := w4) ⟨by decide, Nat.le_of_ble_eq_true rfl⟩ (g := (mkF m 79 #[.val (.ref a), .val (.int p1), .val (.ref b1), .val (.int (1 : Int32))] [(.int w4), (.int (1 : Int32)), (.ref b1)])) rfl rfl (hb hby d2_79)
            have N78 := Fr.snoc X78 N73 g_b1
            have kk78 : Keep h0 h78 [] := kk73.wr W78 (Or.inr sz_b1)
            have zp78 : n0 ≤ h78.size := Nat.le_trans Z0 kk78.1
            have A78v : own_IA Z h78 b1 [w1, w4, (0 : Int32), (0 : Int32), (0 : Int32)] := A78
            refine own_go (fun tgt cont => st78 tgt cont) ?_
            show own_Go p e below s (Q_rm2 Z a p1 w0 w1 w2 w3 w4 h0 n0) 2 10 (T78.setTop (mkF m 80 #[.val (.ref a), .val (.int p1), .val (.ref b1), .val (.int (1 : Int32))] []))
            refine own_go (B := T78.setTop (mkF m 83 #[.val (.ref a), .val (.int p1), .val (.ref b1), .val (.int (2 : Int32))] [])) (fun tgt cont => ?_) ?_
            · refine XT.iincV X78.here hx rfl (1 : Int32) (hb hby d2_80) rfl rfl (l' := #[.val (.ref a), .val (.int p1), .val (.ref b1), .val (.int (2 : Int32))]) rfl ?_
              exact cont
            exact KP2 _ _ _ (w1) (w4) (own_wide X78 (by decide) (by decide)) e78 N78 kk78 A78v (by unfold own_pick; simp only [if_pos hc49, if_neg hc50, if_pos hc74, if_pos hc75, if_neg hc76, List.nil_append, List.append_nil, List.cons_append])
        ·
          have f79 := (f72.other W73 ne_a_b1)
          refine own_go (B := T73.setTop (mkF m 63 #[.val (.ref a), .val (.int p1), .val (.ref b1), .val (.int (1 : Int32))] [(.int w3), (.int (1 : Int32)), (.ref b1)])) (fun tgt cont => ?_) ?_
          · refine XS.ifNo X73.here hx rfl (hb hby d2_55) rfl (XT.i0_eq_f hc75) ?_
            refine XS.aloadN X73.here hx rfl (hb hby d2_58) rfl rfl ?_
            refine XS.iloadN X73.here hx rfl (hb hby d2_59) rfl ?_
            refine XS.aloadN X73.here hx rfl (hb hby d2_60) rfl rfl ?_
            refine XT.iconstV X73.here hx rfl (3 : Int32) (hb hby d2_61) rfl ?_
            refine own_ldIA X73 hx hZ e73 f79 (j := (3 : Int32)) ⟨by decide, Nat.le_of_ble_eq_true rfl⟩ (g := (mkF m 62 #[.val (.ref a), .val (.int p1), .val (.ref b1), .val (.int (1 : Int32))] [(.int (3 : Int32)), (.ref a), (.int (1 : Int32)), (.ref b1)])) rfl rfl (hb hby d2_62) ?_
            exact cont
          obtain ⟨T80, h80, X80, e80, W80, A80, st80⟩ := own_stIA X73 hx hZ e73 A73v (j := (1 : Int32)) (x := w3) ⟨by decide, Nat.le_of_ble_eq_true rfl⟩ (g := (mkF m 63 #[.val (.ref a), .val (.int p1), .val (.ref b1), .val (.int (1 : Int32))] [(.int w3), (.int (1 : Int32)), (.ref b1)])) rfl rfl (hb hby d2_63)
          have N80 := Fr.snoc X80 N73 g_b1
          have kk80 : Keep h0 h80 [] := kk73.wr W80 (Or.inr sz_b1)
          have zp80 : n0 ≤ h80.size := Nat.le_trans Z0 kk80.1
          have A80v : own_IA Z h80 b1 [w1, w3, (0 : Int32), (0 : Int32), (0 : Int32)] := A80
          refine own_go (fun tgt cont => st80 tgt cont) ?_
          show own_Go p e below s (Q_rm2 Z a p1 w0 w1 w2 w3 w4 h0 n0) 2 10 (T80.setTop (mkF m 64 #[.val (.ref a), .val (.int p1), .val (.ref b1), .val (.int (1 : Int32))] []))
          refine own_go (B := T80.setTop (mkF m 71 #[.val (.ref a), .val (.int p1), .val (.ref b1), .val (.int (2 : Int32))] [(.int (p1 &&& (16 : Int32)))])) (fun tgt cont => ?_) ?_
          · refine XT.iincV X80.here hx rfl (1 : Int32) (hb hby d2_64) rfl rfl (l' := #[.val (.ref a), .val (.int p1), .val (.ref b1), .val (.int (2 : Int32))]) rfl ?_
            refine XS.iloadN X80.here hx rfl (hb hby d2_67) rfl ?_
            refine XT.bipushV X80.here hx rfl (16 : Int32) (hb hby d2_68) rfl ?_
            refine XS.iand X80.here hx rfl (hb hby d2_70) rfl ?_
            exact cont
          by_cases hc81 : (p1 &&& (16 : Int32)) = 0
          ·
            refine own_go (B := T80.setTop (mkF m 83 #[.val (.ref a), .val (.int p1), .val (.ref b1), .val (.int (2 : Int32))] [])) (fun tgt cont => ?_) ?_
            · refine XS.ifYes X80.here hx rfl (pc0 := 71) (pc' := 83) rfl (hb hby d2_71) rfl (XT.i0_eq_t hc81) (by decide) (by decide) ?_
              exact cont
            exact KP2 _ _ _ (w1) (w3) (own_wide X80 (by decide) (by decide)) e80 N80 kk80 A80v (by unfold own_pick; simp only [if_pos hc49, if_neg hc50, if_pos hc74, if_neg hc75, if_pos hc81, List.nil_append, List.append_nil, List.cons_append])
          ·
            have f82 := (f79.other W80 ne_a_b1)
            refine own_go (B := T80.setTop (mkF m 79 #[.val (.ref a), .val (.int p1), .val (.ref b1), .val (.int (2 : Int32))] [(.int w4), (.int (2 : Int32)), (.ref b1)])) (fun tgt cont => ?_) ?_
            · refine XS.ifNo X80.here hx rfl (hb hby d2_71) rfl (XT.i0_eq_f hc81) ?_
              refine XS.aloadN X80.here hx rfl (hb hby d2_74) rfl rfl ?_
              refine XS.iloadN X80.here hx rfl (hb hby d2_75) rfl ?_
              refine XS.aloadN X80.here hx rfl (hb hby d2_76) rfl rfl ?_
              refine XT.iconstV X80.here hx rfl (4 : Int32) (hb hby d2_77) rfl ?_
              refine own_ldIA X80 hx hZ e80 f82 (j := (4 : Int32)) ⟨by decide, Nat.le_of_ble_eq_true rfl⟩ (g := (mkF m 78 #[.val (.ref a), .val (.int p1), .val (.ref b1), .val (.int (2 : Int32))] [(.int (4 : Int32)), (.ref a), (.int (2 : Int32)), (.ref b1)])) rfl rfl (hb hby d2_78) ?_
              exact cont
            obtain ⟨T83, h83, X83, e83, W83, A83, st83⟩ := own_stIA X80 hx hZ e80 A80v (j := (2 : Int32)) (x := w4) ⟨by decide, Nat.le_of_ble_eq_true rfl⟩ (g := (mkF m 79 #[.val (.ref a), .val (.int p1), .val (.ref b1), .val (.int (2 : Int32))] [(.int w4), (.int (2 : Int32)), (.ref b1)])) rfl rfl (hb hby d2_79)
            have N83 := Fr.snoc X83 N80 g_b1
            have kk83 : Keep h0 h83 [] := kk80.wr W83 (Or.inr sz_b1)
            have zp83 : n0 ≤ h83.size := Nat.le_trans Z0 kk83.1
            have A83v : own_IA Z h83 b1 [w1, w3, w4, (0 : Int32), (0 : Int32)] := A83
            refine own_go (fun tgt cont => st83 tgt cont) ?_
            show own_Go p e below s (Q_rm2 Z a p1 w0 w1 w2 w3 w4 h0 n0) 2 10 (T83.setTop (mkF m 80 #[.val (.ref a), .val (.int p1), .val (.ref b1), .val (.int (2 : Int32))] []))
            refine own_go (B := T83.setTop (mkF m 83 #[.val (.ref a), .val (.int p1), .val (.ref b1), .val (.int (3 : Int32))] [])) (fun tgt cont => ?_) ?_
            · refine XT.iincV X83.here hx rfl (1 : Int32) (hb hby d2_80) rfl rfl (l' := #[.val (.ref a), .val (.int p1), .val (.ref b1), .val (.int (3 : Int32))]) rfl ?_
              exact cont
            exact KP3 _ _ _ (w1) (w3) (w4) (own_wide X83 (by decide) (by decide)) e83 N83 kk83 A83v (by unfold own_pick; simp only [if_pos hc49, if_neg hc50, if_pos hc74, if_neg hc75, if_neg hc81, List.nil_append, List.append_nil, List.cons_append])
      ·
        have f84 := (f72.other W73 ne_a_b1)
        refine own_go (B := T73.setTop (mkF m 47 #[.val (.ref a), .val (.int p1), .val (.ref b1), .val (.int (1 : Int32))] [(.int w2), (.int (1 : Int32)), (.ref b1)])) (fun tgt cont => ?_) ?_
        · refine XS.ifNo X73.here hx rfl (hb hby d2_39) rfl (XT.i0_eq_f hc74) ?_
          refine XS.aloadN X73.here hx rfl (hb hby d2_42) rfl rfl ?_
          refine XS.iloadN X73.here hx rfl (hb hby d2_43) rfl ?_
          refine XS.aloadN X73.here hx rfl (hb hby d2_44) rfl rfl ?_
          refine XT.iconstV X73.here hx rfl (2 : Int32) (hb hby d2_45) rfl ?_
          refine own_ldIA X73 hx hZ e73 f84 (j := (2 : Int32)) ⟨by decide, Nat.le_of_ble_eq_true rfl⟩ (g := (mkF m 46 #[.val (.ref a), .val (.int p1), .val (.ref b1), .val (.int (1 : Int32))] [(.int (2 : Int32)), (.ref a), (.int (1 : Int32)), (.ref b1)])) rfl rfl (hb hby d2_46) ?_
          exact cont
        obtain ⟨T85, h85, X85, e85, W85, A85, st85⟩ := own_stIA X73 hx hZ e73 A73v (j := (1 : Int32)) (x := w2) ⟨by decide, Nat.le_of_ble_eq_true rfl⟩ (g := (mkF m 47 #[.val (.ref a), .val (.int p1), .val (.ref b1), .val (.int (1 : Int32))] [(.int w2), (.int (1 : Int32)), (.ref b1)])) rfl rfl (hb hby d2_47)
        have N85 := Fr.snoc X85 N73 g_b1
        have kk85 : Keep h0 h85 [] := kk73.wr W85 (Or.inr sz_b1)
        have zp85 : n0 ≤ h85.size := Nat.le_trans Z0 kk85.1
        have A85v : own_IA Z h85 b1 [w1, w2, (0 : Int32), (0 : Int32), (0 : Int32)] := A85
        refine own_go (fun tgt cont => st85 tgt cont) ?_
        show own_Go p e below s (Q_rm2 Z a p1 w0 w1 w2 w3 w4 h0 n0) 2 10 (T85.setTop (mkF m 48 #[.val (.ref a), .val (.int p1), .val (.ref b1), .val (.int (1 : Int32))] []))
        refine own_go (B := T85.setTop (mkF m 55 #[.val (.ref a), .val (.int p1), .val (.ref b1), .val (.int (2 : Int32))] [(.int (p1 &&& (8 : Int32)))])) (fun tgt cont => ?_) ?_
        · refine XT.iincV X85.here hx rfl (1 : Int32) (hb hby d2_48) rfl rfl (l' := #[.val (.ref a), .val (.int p1), .val (.ref b1), .val (.int (2 : Int32))]) rfl ?_
          refine XS.iloadN X85.here hx rfl (hb hby d2_51) rfl ?_
          refine XT.bipushV X85.here hx rfl (8 : Int32) (hb hby d2_52) rfl ?_
          refine XS.iand X85.here hx rfl (hb hby d2_54) rfl ?_
          exact cont
        by_cases hc86 : (p1 &&& (8 : Int32)) = 0
        ·
          refine own_go (B := T85.setTop (mkF m 71 #[.val (.ref a), .val (.int p1), .val (.ref b1), .val (.int (2 : Int32))] [(.int (p1 &&& (16 : Int32)))])) (fun tgt cont => ?_) ?_
          · refine XS.ifYes X85.here hx rfl (pc0 := 55) (pc' := 67) rfl (hb hby d2_55) rfl (XT.i0_eq_t hc86) (by decide) (by decide) ?_
            refine XS.iloadN X85.here hx rfl (hb hby d2_67) rfl ?_
            refine XT.bipushV X85.here hx rfl (16 : Int32) (hb hby d2_68) rfl ?_
            refine XS.iand X85.here hx rfl (hb hby d2_70) rfl ?_
            exact cont
          by_cases hc87 : (p1 &&& (16 : Int32)) = 0
          ·
            refine own_go (B := T85.setTop (mkF m 83 #[.val (.ref a), .val (.int p1), .val (.ref b1), .val (.int (2 : Int32))] [])) (fun tgt cont => ?_) ?_
            · refine XS.ifYes X85.here hx rfl (pc0 := 71) (pc' := 83) rfl (hb hby d2_71) rfl (XT.i0_eq_t hc87) (by decide) (by decide) ?_
              exact cont
            exact KP2 _ _ _ (w1) (w2) (own_wide X85 (by decide) (by decide)) e85 N85 kk85 A85v (by unfold own_pick; simp only [if_pos hc49, if_neg hc50, if_neg hc74, if_pos hc86, if_pos hc87, List.nil_append, List.append_nil, List.cons_append])
          ·
            have f88 := (f84.other W85 ne_a_b1)
            refine own_go (B := T85.setTop (mkF m 79 #[.val (.ref a), .val (.int p1), .val (.ref b1), .val (.int (2 : Int32))] [(.int w4), (.int (2 : Int32)), (.ref b1)])) (fun tgt cont => ?_) ?_
            · refine XS.ifNo X85.here hx rfl (hb hby d2_71) rfl (XT.i0_eq_f hc87) ?_
              refine XS.aloadN X85.here hx rfl (hb hby d2_74) rfl rfl ?_
              refine XS.iloadN X85.here hx rfl (hb hby d2_75) rfl ?_
              refine XS.aloadN X85.here hx rfl (hb hby d2_76) rfl rfl ?_
              refine XT.iconstV X85.here hx rfl (4 : Int32) (hb hby d2_77) rfl ?_
              refine own_ldIA X85 hx hZ e85 f88 (j := (4 : Int32)) ⟨by decide, Nat.le_of_ble_eq_true rfl⟩ (g := (mkF m 78 #[.val (.ref a), .val (.int p1), .val (.ref b1), .val (.int (2 : Int32))] [(.int (4 : Int32)), (.ref a), (.int (2 : Int32)), (.ref b1)])) rfl rfl (hb hby d2_78) ?_
              exact cont
            obtain ⟨T89, h89, X89, e89, W89, A89, st89⟩ := own_stIA X85 hx hZ e85 A85v (j := (2 : Int32)) (x := w4) ⟨by decide, Nat.le_of_ble_eq_true rfl⟩ (g := (mkF m 79 #[.val (.ref a), .val (.int p1), .val (.ref b1), .val (.int (2 : Int32))] [(.int w4), (.int (2 : Int32)), (.ref b1)])) rfl rfl (hb hby d2_79)
            have N89 := Fr.snoc X89 N85 g_b1
            have kk89 : Keep h0 h89 [] := kk85.wr W89 (Or.inr sz_b1)
            have zp89 : n0 ≤ h89.size := Nat.le_trans Z0 kk89.1
            have A89v : own_IA Z h89 b1 [w1, w2, w4, (0 : Int32), (0 : Int32)] := A89
            refine own_go (fun tgt cont => st89 tgt cont) ?_
            show own_Go p e below s (Q_rm2 Z a p1 w0 w1 w2 w3 w4 h0 n0) 2 10 (T89.setTop (mkF m 80 #[.val (.ref a), .val (.int p1), .val (.ref b1), .val (.int (2 : Int32))] []))
            refine own_go (B := T89.setTop (mkF m 83 #[.val (.ref a), .val (.int p1), .val (.ref b1), .val (.int (3 : Int32))] [])) (fun tgt cont => ?_) ?_
            · refine XT.iincV X89.here hx rfl (1 : Int32) (hb hby d2_80) rfl rfl (l' := #[.val (.ref a), .val (.int p1), .val (.ref b1), .val (.int (3 : Int32))]) rfl ?_
              exact cont
            exact KP3 _ _ _ (w1) (w2) (w4) (own_wide X89 (by decide) (by decide)) e89 N89 kk89 A89v (by unfold own_pick; simp only [if_pos hc49, if_neg hc50, if_neg hc74, if_pos hc86, if_neg hc87, List.nil_append, List.append_nil, List.cons_append])
        ·
          have f90 := (f84.other W85 ne_a_b1)
          refine own_go (B := T85.setTop (mkF m 63 #[.val (.ref a), .val (.int p1), .val (.ref b1), .val (.int (2 : Int32))] [(.int w3), (.int (2 : Int32)), (.ref b1)])) (fun tgt cont => ?_) ?_
          · refine XS.ifNo X85.here hx rfl (hb hby d2_55) rfl (XT.i0_eq_f hc86) ?_
            refine XS.aloadN X85.here hx rfl (hb hby d2_58) rfl rfl ?_
            refine XS.iloadN X85.here hx rfl (hb hby d2_59) rfl ?_
            refine XS.aloadN X85.here hx rfl (hb hby d2_60) rfl rfl ?_
            refine XT.iconstV X85.here hx rfl (3 : Int32) (hb hby d2_61) rfl ?_
            refine own_ldIA X85 hx hZ e85 f90 (j := (3 : Int32)) ⟨by decide, Nat.le_of_ble_eq_true rfl⟩ (g := (mkF m 62 #[.val (.ref a), .val (.int p1), .val (.ref b1), .val (.int (2 : Int32))] [(.int (3 : Int32)), (.ref a), (.int (2 : Int32)), (.ref b1)])) rfl rfl (hb hby d2_62) ?_
            exact cont
          obtain ⟨T91, h91, X91, e91, W91, A91, st91⟩ := own_stIA X85 hx hZ e85 A85v (j := (2 : Int32)) (x := w3) ⟨by decide, Nat.le_of_ble_eq_true rfl⟩ (g := (mkF m 63 #[.val (.ref a), .val (.int p1), .val (.ref b1), .val (.int (2 : Int32))] [(.int w3), (.int (2 : Int32)), (.ref b1)])) rfl rfl (hb hby d2_63)
          have N91 := Fr.snoc X91 N85 g_b1
          have kk91 : Keep h0 h91 [] := kk85.wr W91 (Or.inr sz_b1)
          have zp91 : n0 ≤ h91.size := Nat.le_trans Z0 kk91.1
          have A91v : own_IA Z h91 b1 [w1, w2, w3, (0 : Int32), (0 : Int32)] := A91
          refine own_go (fun tgt cont => st91 tgt cont) ?_
          show own_Go p e below s (Q_rm2 Z a p1 w0 w1 w2 w3 w4 h0 n0) 2 10 (T91.setTop (mkF m 64 #[.val (.ref a), .val (.int p1), .val (.ref b1), .val (.int (2 : Int32))] []))
          refine own_go (B := T91.setTop (mkF m 71 #[.val (.ref a), .val (.int p1), .val (.ref b1), .val (.int (3 : Int32))] [(.int (p1 &&& (16 : Int32)))])) (fun tgt cont => ?_) ?_
          · refine XT.iincV X91.here hx rfl (1 : Int32) (hb hby d2_64) rfl rfl (l' := #[.val (.ref a), .val (.int p1), .val (.ref b1), .val (.int (3 : Int32))]) rfl ?_
            refine XS.iloadN X91.here hx rfl (hb hby d2_67) rfl ?_
            refine XT.bipushV X91.here hx rfl (16 : Int32) (hb hby d2_68) rfl ?_
            refine XS.iand X91.here hx rfl (hb hby d2_70) rfl ?_
            exact cont
          by_cases hc92 : (p1 &&& (16 : Int32)) = 0
          ·
            refine own_go (B := T91.setTop (mkF m 83 #[.val (.ref a), .val (.int p1), .val (.ref b1), .val (.int (3 : Int32))] [])) (fun tgt cont => ?_) ?_
            · refine XS.ifYes X91.here hx rfl (pc0 := 71) (pc' := 83) rfl (hb hby d2_71) rfl (XT.i0_eq_t hc92) (by decide) (by decide) ?_
              exact cont
            exact KP3 _ _ _ (w1) (w2) (w3) (own_wide X91 (by decide) (by decide)) e91 N91 kk91 A91v (by unfold own_pick; simp only [if_pos hc49, if_neg hc50, if_neg hc74, if_neg hc86, if_pos hc92, List.nil_append, List.append_nil, List.cons_append])
          ·
            have f93 := (f90.other W91 ne_a_b1)
            refine own_go (B := T91.setTop (mkF m 79 #[.val (.ref a), .val (.int p1), .val (.ref b1), .val (.int (3 : Int32))] [(.int w4), (.int (3 : Int32)), (.ref b1)])) (fun tgt cont => ?_) ?_
            · refine XS.ifNo X91.here hx rfl (hb hby d2_71) rfl (XT.i0_eq_f hc92) ?_
              refine XS.aloadN X91.here hx rfl (hb hby d2_74) rfl rfl ?_
              refine XS.iloadN X91.here hx rfl (hb hby d2_75) rfl ?_
              refine XS.aloadN X91.here hx rfl (hb hby d2_76) rfl rfl ?_
              refine XT.iconstV X91.here hx rfl (4 : Int32) (hb hby d2_77) rfl ?_
              refine own_ldIA X91 hx hZ e91 f93 (j := (4 : Int32)) ⟨by decide, Nat.le_of_ble_eq_true rfl⟩ (g := (mkF m 78 #[.val (.ref a), .val (.int p1), .val (.ref b1), .val (.int (3 : Int32))] [(.int (4 : Int32)), (.ref a), (.int (3 : Int32)), (.ref b1)])) rfl rfl (hb hby d2_78) ?_
              exact cont
            obtain ⟨T94, h94, X94, e94, W94, A94, st94⟩ := own_stIA X91 hx hZ e91 A91v (j := (3 : Int32)) (x := w4) ⟨by decide, Nat.le_of_ble_eq_true rfl⟩ (g := (mkF m 79 #[.val (.ref a), .val (.int p1), .val (.ref b1), .val (.int (3 : Int32))] [(.int w4), (.int (3 : Int32)), (.ref b1)])) rfl rfl (hb hby d2_79)
            have N94 := Fr.snoc X94 N91 g_b1
            have kk94 : Keep h0 h94 [] := kk91.wr W94 (Or.inr sz_b1)
            have zp94 : n0 ≤ h94.size := Nat.le_trans Z0 kk94.1
            have A94v : own_IA Z h94 b1 [w1, w2, w3, w4, (0 : Int32)] := A94
            refine own_go (fun tgt cont => st94 tgt cont) ?_
            show own_Go p e below s (Q_rm2 Z a p1 w0 w1 w2 w3 w4 h0 n0) 2 10 (T94.setTop (mkF m 80 #[.val (.ref a), .val (.int p1), .val (.ref b1), .val (.int (3 : Int32))] []))
            refine own_go (B := T94.setTop (mkF m 83 #[.val (.ref a), .val (.int p1), .val (.ref b1), .val (.int (4 : Int32))] [])) (fun tgt cont => ?_) ?_
            · refine XT.iincV X94.here hx rfl (1 : Int32) (hb hby d2_80) rfl rfl (l' := #[.val (.ref a), .val (.int p1), .val (.ref b1), .val (.int (4 : Int32))]) rfl ?_
              exact cont
            exact KP4 _ _ _ (w1) (w2) (w3) (w4) (own_wide X94 (by decide) (by decide)) e94 N94 kk94 A94v (by unfold own_pick; simp only [if_pos hc49, if_neg hc50, if_neg hc74, if_neg hc86, if_neg hc92, List.nil_append, List.append_nil, List.cons_append])
  ·
    have f95 := (A_a.ext E1)
    refine own_go (B := T1.setTop (mkF m 17 #[.val (.ref a), .val (.int p1), .val (.ref b1), .val (.int (0 : Int32))] [(.int w0), (.int (0 : Int32)), (.ref b1)])) (fun tgt cont => ?_) ?_
    · refine XS.ifNo X1.here hx rfl (hb hby d2_9) rfl (XT.i0_eq_f hc49) ?_
      refine XS.aloadN X1.here hx rfl (hb hby d2_12) rfl rfl ?_
      refine XS.iloadN X1.here hx rfl (hb hby d2_13) rfl ?_
      refine XS.aloadN X1.here hx rfl (hb hby d2_14) rfl rfl ?_
      refine XT.iconstV X1.here hx rfl (0 : Int32) (hb hby d2_15) rfl ?_
      refine own_ldIA X1 hx hZ e1 f95 (j := (0 : Int32)) ⟨by decide, Nat.le_of_ble_eq_true rfl⟩ (g := (mkF m 16 #[.val (.ref a), .val (.int p1), .val (.ref b1), .val (.int (0 : Int32))] [(.int (0 : Int32)), (.ref a), (.int (0 : Int32)), (.ref b1)])) rfl rfl (hb hby d2_16) ?_
      exact cont
    obtain ⟨T96, h96, X96, e96, W96, A96, st96⟩ := own_stIA X1 hx hZ e1 A1v (j := (0 : Int32)) (x := w0) ⟨by decide, Nat.le_of_ble_eq_true rfl⟩ (g := (mkF m 17 #[.val (.ref a), .val (.int p1), .val (.ref b1), .val (.int (0 : Int32))] [(.int w0), (.int (0 : Int32)), (.ref b1)])) rfl rfl (hb hby d2_17)
    have N96 := Fr.snoc X96 N0 g_b1
    have kk96 : Keep h0 h96 [] := kk1.wr W96 (Or.inr sz_b1)
    have zp96 : n0 ≤ h96.size := Nat.le_trans Z0 kk96.1
    have A96v : own_IA Z h96 b1 [w0, (0 : Int32), (0 : Int32), (0 : Int32), (0 : Int32)] := A96
    refine own_go (fun tgt cont => st96 tgt cont) ?_
    show own_Go p e below s (Q_rm2 Z a p1 w0 w1 w2 w3 w4 h0 n0) 2 10 (T96.setTop (mkF m 18 #[.val (.ref a), .val (.int p1), .val (.ref b1), .val (.int (0 : Int32))] []))
    refine own_go (B := T96.setTop (mkF m 24 #[.val (.ref a), .val (.int p1), .val (.ref b1), .val (.int (1 : Int32))] [(.int (p1 &&& (2 : Int32)))])) (fun tgt cont => ?_) ?_
    · refine XT.iincV X96.here hx rfl (1 : Int32) (hb hby d2_18) rfl rfl (l' := #[.val (.ref a), .val (.int p1), .val (.ref b1), .val (.int (1 : Int32))]) rfl ?_
      refine XS.iloadN X96.here hx rfl (hb hby d2_21) rfl ?_
      refine XT.iconstV X96.here hx rfl (2 : Int32) (hb hby d2_22) rfl ?_
      refine XS.iand X96.here hx rfl (hb hby d2_23) rfl ?_
      exact cont
    by_cases hc97 : (p1 &&& (2 : Int32)) = 0
    ·
      refine own_go (B := T96.setTop (mkF m 39 #[.val (.ref a), .val (.int p1), .val (.ref b1), .val (.int (1 : Int32))] [(.int (p1 &&& (4 : Int32)))])) (fun tgt cont => ?_) ?_
      · refine XS.ifYes X96.here hx rfl (pc0 := 24) (pc' := 36) rfl (hb hby d2_24) rfl (XT.i0_eq_t hc97) (by decide) (by decide) ?_
        refine XS.iloadN X96.here hx rfl (hb hby d2_36) rfl ?_
        refine XT.iconstV X96.here hx rfl (4 : Int32) (hb hby d2_37) rfl ?_
        refine XS.iand X96.here hx rfl (hb hby d2_38) rfl ?_
        exact cont
      by_cases hc98 : (p1 &&& (4 : Int32)) = 0
      ·
        refine own_go (B := T96.setTop (mkF m 55 #[.val (.ref a), .val (.int p1), .val (.ref b1), .val (.int (1 : Int32))] [(.int (p1 &&& (8 : Int32)))])) (fun tgt cont => ?_) ?_
        · refine XS.ifYes X96.here hx rfl (pc0 := 39) (pc' := 51) rfl (hb hby d2_39) rfl (XT.i0_eq_t hc98) (by decide) (by decide) ?_
          refine XS.iloadN X96.here hx rfl (hb hby d2_51) rfl ?_
          refine XT.bipushV X96.here hx rfl (8 : Int32) (hb hby d2_52) rfl ?_
          refine XS.iand X96.here hx rfl (hb hby d2_54) rfl ?_
          exact cont
        by_cases hc99 : (p1 &&& (8 : Int32)) = 0
        ·
          refine own_go (B := T96.setTop (mkF m 71 #[.val (.ref a), .val (.int p1), .val (.ref b1), .val (.int (1 : Int32))] [(.int (p1 &&& (16 : Int32)))])) (fun tgt cont => ?_) ?_
          · refine XS.ifYes X96.here hx rfl (pc0 := 55) (pc' := 67) rfl (hb hby d2_55) rfl (XT.i0_eq_t hc99) (by decide) (by decide) ?_
            refine XS.iloadN X96.here hx rfl (hb hby d2_67) rfl ?_
            refine XT.bipushV X96.here hx rfl (16 : Int32) (hb hby d2_68) rfl ?_
            refine XS.iand X96.here hx rfl (hb hby d2_70) rfl ?_
            exact cont
          by_cases hc100 : (p1 &&& (16 : Int32)) = 0
          ·
            refine own_go (B := T96.setTop (mkF m 83 #[.val (.ref a), .val (.int p1), .val (.ref b1), .val (.int (1 : Int32))] [])) (fun tgt cont => ?_) ?_
            · refine XS.ifYes X96.here hx rfl (pc0 := 71) (pc' := 83) rfl (hb hby d2_71) rfl (XT.i0_eq_t hc100) (by decide) (by decide) ?_
              exact cont
            exact KP1 _ _ _ (w0) (own_wide X96 (by decide) (by decide)) e96 N96 kk96 A96v (by unfold own_pick; simp only [if_neg hc49, if_pos hc97, if_pos hc98, if_pos hc99, if_pos hc100, List.nil_append, List.append_nil, List.cons_append])
          ·
            have f101 := (f95.other W96 ne_a_b1)
            refine own_go (B := T96.setTop (mkF m 79 #[.val (.ref a), .val (.int p1), .val (.ref b1), .val (.int (1 : Int32))] [(.int w4), (.int (1 : Int32)), (.ref b1)])) (fun tgt cont => ?_) ?_
            · refine XS.ifNo X96.here hx rfl (hb hby d2_71) rfl (XT.i0_eq_f hc100) ?_
              refine XS.aloadN X96.here hx rfl (hb hby d2_74) rfl rfl ?_
              refine XS.iloadN X96.here hx rfl (hb hby d2_75) rfl ?_
              refine XS.aloadN X96.here hx rfl (hb hby d2_76) rfl rfl ?_
              refine XT.iconstV X96.here hx rfl (4 : Int32) (hb hby d2_77) rfl ?_
              refine own_ldIA X96 hx hZ e96 f101 (j := (4 : Int32)) ⟨by decide, Nat.le_of_ble_eq_true rfl⟩ (g := (mkF m 78 #[.val (.ref a), .val (.int p1), .val (.ref b1), .val (.int (1 : Int32))] [(.int (4 : Int32)), (.ref a), (.int (1 : Int32)), (.ref b1)])) rfl rfl (hb hby d2_78) ?_
              exact cont
            obtain ⟨T102, h102, X102, e102, W102, A102, st102⟩ := own_stIA X96 hx hZ e96 A96v (j := (1 : Int32)) (x := w4) ⟨by decide, Nat.le_of_ble_eq_true rfl⟩ (g := (mkF m 79 #[.val (.ref a), .val (.int p1), .val (.ref b1), .val (.int (1 : Int32))] [(.int w4), (.int (1 : Int32)), (.ref b1)])) rfl rfl (hb hby d2_79)
            have N102 := Fr.snoc X102 N96 g_b1
            have kk102 : Keep h0 h102 [] := kk96.wr W102 (Or.inr sz_b1)
            have zp102 : n0 ≤ h102.size := Nat.le_trans Z0 kk102.1
            have A102v : own_IA Z h102 b1 [w0, w4, (0 : Int32), (0 : Int32), (0 : Int32)] := A102
            refine own_go (fun tgt cont => st102 tgt cont) ?_
            show own_Go p e below s (Q_rm2 Z a p1 w0 w1 w2 w3 w4 h0 n0) 2 10 (T102.setTop (mkF m 80 #[.val (.ref a), .val (.int p1), .val (.ref b1), .val (.int (1 : Int32))] []))
            refine own_go (B := T102.setTop (mkF m 83 #[.val (.ref a), .val (.int p1), .val (.ref b1), .val (.int (2 : Int32))] [])) (fun tgt cont => ?_) ?_
            · refine XT.iincV X102.here hx rfl (1 : Int32) (hb hby d2_80) rfl rfl (l' := #[.val (.ref a), .val (.int p1), .val (.ref b1), .val (.int (2 : Int32))]) rfl ?_
              exact cont
            exact KP2 _ _ _ (w0) (w4) (own_wide X102 (by decide) (by decide)) e102 N102 kk102 A102v (by unfold own_pick; simp only [if_neg hc49, if_pos hc97, if_pos hc98, if_pos hc99, if_neg hc100, List.nil_append, List.append_nil, List.cons_append])
        ·
          have f103 := (f95.other W96 ne_a_b1)
          refine own_go (B := T96.setTop (mkF m 63 #[.val (.ref a), .val (.int p1), .val (.ref b1), .val (.int (1 : Int32))] [(.int w3), (.int (1 : Int32)), (.ref b1)])) (fun tgt cont => ?_) ?_
          · refine XS.ifNo X96.here hx rfl (hb hby d2_55) rfl (XT.i0_eq_f hc99) ?_
            refine XS.aloadN X96.here hx rfl (hb hby d2_58) rfl rfl ?_
            refine XS.iloadN X96.here hx rfl (hb hby d2_59) rfl ?_
            refine XS.aloadN X96.here hx rfl (hb hby d2_60) rfl rfl ?_
            refine XT.iconstV X96.here hx rfl (3 : Int32) (hb hby d2_61) rfl ?_
            refine own_ldIA X96 hx hZ e96 f103 (j := (3 : Int32)) ⟨by decide, Nat.le_of_ble_eq_true rfl⟩ (g := (mkF m 62 #[.val (.ref a), .val (.int p1), .val (.ref b1), .val (.int (1 : Int32))] [(.int (3 : Int32)), (.ref a), (.int (1 : Int32)), (.ref b1)])) rfl rfl (hb hby d2_62) ?_
            exact cont
          obtain ⟨T104, h104, X104, e104, W104, A104, st104⟩ := own_stIA X96 hx hZ e96 A96v (j := (1 : Int32)) (x := w3) ⟨by decide, Nat.le_of_ble_eq_true rfl⟩ (g := (mkF m 63 #[.val (.ref a), .val (.int p1), .val (.ref b1), .val (.int (1 : Int32))] [(.int w3), (.int (1 : Int32)), (.ref b1)])) rfl rfl (hb hby d2_63)
          have N104 := Fr.snoc X104 N96 g_b1
          have kk104 : Keep h0 h104 [] := kk96.wr W104 (Or.inr sz_b1)
          have zp104 : n0 ≤ h104.size := Nat.le_trans Z0 kk104.1
          have A104v : own_IA Z h104 b1 [w0, w3, (0 : Int32), (0 : Int32), (0 : Int32)] := A104
          refine own_go (fun tgt cont => st104 tgt cont) ?_
          show own_Go p e below s (Q_rm2 Z a p1 w0 w1 w2 w3 w4 h0 n0) 2 10 (T104.setTop (mkF m 64 #[.val (.ref a), .val (.int p1), .val (.ref b1), .val (.int (1 : Int32))] []))
          refine own_go (B := T104.setTop (mkF m 71 #[.val (.ref a), .val (.int p1), .val (.ref b1), .val (.int (2 : Int32))] [(.int (p1 &&& (16 : Int32)))])) (fun tgt cont => ?_) ?_
          · refine XT.iincV X104.here hx rfl (1 : Int32) (hb hby d2_64) rfl rfl (l' := #[.val (.ref a), .val (.int p1), .val (.ref b1), .val (.int (2 : Int32))]) rfl ?_
            refine XS.iloadN X104.here hx rfl (hb hby d2_67) rfl ?_
            refine XT.bipushV X104.here hx rfl (16 : Int32) (hb hby d2_68) rfl ?_
            refine XS.iand X104.here hx rfl (hb hby d2_70) rfl ?_
            exact cont
          by_cases hc105 : (p1 &&& (16 : Int32)) = 0
          ·
            refine own_go (B := T104.setTop (mkF m 83 #[.val (.ref a), .val (.int p1), .val (.ref b1), .val (.int (2 : Int32))] [])) (fun tgt cont => ?_) ?_
            · refine XS.ifYes X104.here hx rfl (pc0 := 71) (pc' := 83) rfl (hb hby d2_71) rfl (XT.i0_eq_t hc105) (by decide) (by decide) ?_
              exact cont
            exact KP2 _ _ _ (w0) (w3) (own_wide X104 (by decide) (by decide)) e104 N104 kk104 A104v (by unfold own_pick; simp only [if_neg hc49, if_pos hc97, if_pos hc98, if_neg hc99, if_pos hc105, List.nil_append, List.append_nil, List.cons_append])
          ·
            have f106 := (f103.other W104 ne_a_b1)
            refine own_go (B := T104.setTop (mkF m 79 #[.val (.ref a), .val (.int p1), .val (.ref b1), .val (.int (2 : Int32))] [(.int w4), (.int (2 : Int32)), (.ref b1)])) (fun tgt cont => ?_) ?_
            · refine XS.ifNo X104.here hx rfl (hb hby d2_71) rfl (XT.i0_eq_f hc105) ?_
              refine XS.aloadN X104.here hx rfl (hb hby d2_74) rfl rfl ?_
              refine XS.iloadN X104.here hx rfl (hb hby d2_75) rfl ?_
              refine XS.aloadN X104.here hx rfl (hb hby d2_76) rfl rfl ?_
              refine XT.iconstV X104.here hx rfl (4 : Int32) (hb hby d2_77) rfl ?_
              refine own_ldIA X104 hx hZ e104 f106 (j := (4 : Int32)) ⟨by decide, Nat.le_of_ble_eq_true rfl⟩ (g := (mkF m 78 #[.val (.ref a), .val (.int p1), .val (.ref b1), .val (.int (2 : Int32))] [(.int (4 : Int32)), (.ref a), (.int (2 : Int32)), (.ref b1)])) rfl rfl (hb hby d2_78) ?_
              exact cont
            obtain ⟨T107, h107, X107, e107, W107, A107, st107⟩ := own_stIA X104 hx hZ e104 A104v (j := (2 : Int32)) (x := w4) ⟨by decide, Nat.le_of_ble_eq_true rfl⟩ (g := (mkF m 79 #[.val (.ref a), .val (.int p1), .val (.ref b1), .val (.int (2 : Int32))] [(.int w4), (.int (2 : Int32)), (.ref b1)])) rfl rfl (hb hby d2_79)
            have N107 := Fr.snoc X107 N104 g_b1
            have kk107 : Keep h0 h107 [] := kk104.wr W107 (Or.inr sz_b1)
            have zp107 : n0 ≤ h107.size := Nat.le_trans Z0 kk107.1
            have A107v : own_IA Z h107 b1 [w0, w3, w4, (0 : Int32), (0 : Int32)] := A107
            refine own_go (fun tgt cont => st107 tgt cont) ?_
            show own_Go p e below s (Q_rm2 Z a p1 w0 w1 w2 w3 w4 h0 n0) 2 10 (T107.setTop (mkF m 80 #[.val (.ref a), .val (.int p1), .val (.ref b1), .val (.int (2 : Int32))] []))
            refine own_go (B := T107.setTop (mkF m 83 #[.val (.ref a), .val (.int p1), .val (.ref b1), .val (.int (3 : Int32))] [])) (fun tgt cont => ?_) ?_
            · refine XT.iincV X107.here hx rfl (1 : Int32) (hb hby d2_80) rfl rfl (l' := #[.val (.ref a), .val (.int p1), .val (.ref b1), .val (.int (3 : Int32))]) rfl ?_
              exact cont
            exact KP3 _ _ _ (w0) (w3) (w4) (own_wide X107 (by decide) (by decide)) e107 N107 kk107 A107v (by unfold own_pick; simp only [if_neg hc49, if_pos hc97, if_pos hc98, if_neg hc99, if_neg hc105, List.nil_append, List.append_nil, List.cons_append])
      ·
        have f108 := (f95.other W96 ne_a_b1)
        refine own_go (B := T96.setTop (mkF m 47 #[.val (.ref a), .val (.int p1), .val (.ref b1), .val (.int (1 : Int32))] [(.int w2), (.int (1 : Int32)), (.ref b1)])) (fun tgt cont => ?_) ?_
        · refine XS.ifNo X96.here hx rfl (hb hby d2_39) rfl (XT.i0_eq_f hc98) ?_
          refine XS.aloadN X96.here hx rfl (hb hby d2_42) rfl rfl ?_
          refine XS.iloadN X96.here hx rfl (hb hby d2_43) rfl ?_
          refine XS.aloadN X96.here hx rfl (hb hby d2_44) rfl rfl ?_
          refine XT.iconstV X96.here hx rfl (2 : Int32) (hb hby d2_45) rfl ?_
          refine own_ldIA X96 hx hZ e96 f108 (j := (2 : Int32)) ⟨by decide, Nat.le_of_ble_eq_true rfl⟩ (g := (mkF m 46 #[.val (.ref a), .val (.int p1), .val (.ref b1), .val (.int (1 : Int32))] [(.int (2 : Int32)), (.ref a), (.int (1 : Int32)), (.ref b1)])) rfl rfl (hb hby d2_46) ?_
          exact cont
        obtain ⟨T109, h109, X109, e109, W109, A109, st109⟩ := own_stIA X96 hx hZ e96 A96v (j := (1 : Int32)) (x := w2) ⟨by decide, Nat.le_of_ble_eq_true rfl⟩ (g := (mkF m 47 #[.val (.ref a), .val (.int p1), .val (.ref b1), .val (.int (1 : Int32))] [(.int w2), (.int (1 : Int32)), (.ref b1)])) rfl rfl (hb hby d2_47)
        have N109 := Fr.snoc X109 N96 g_b1
        have kk109 : Keep h0 h109 [] := kk96.wr W109 (Or.inr sz_b1)
        have zp109 : n0 ≤ h109.size := Nat.le_trans Z0 kk109.1
        have A109v : own_IA Z h109 b1 [w0, w2, (0 : Int32), (0 : Int32), (0 : Int32)] := A109
        refine own_go (fun tgt cont => st109 tgt cont) ?_
        show own_Go p e below s (Q_rm2 Z a p1 w0 w1 w2 w3 w4 h0 n0) 2 10 (T109.setTop (mkF m 48 #[.val (.ref a), .val (.int p1), .val (.ref b1), .val (.int (1 : Int32))] []))
        refine own_go (B := T109.setTop (mkF m 55 #[.val (.ref a), .val (.int p1), .val (.ref b1), .val (.int (2 : Int32))] [(.int (p1 &&& (8 : Int32)))])) (fun tgt cont => ?_) ?_
        · refine XT.iincV X109.here hx rfl (1 : Int32) (hb hby d2_48) rfl rfl (l' := #[.val (.ref a), .val (.int p1), .val (.ref b1), .val (.int (2 : Int32))]) rfl ?_
          refine XS.iloadN X109.here hx rfl (hb hby d2_51) rfl ?_
          refine XT.bipushV X109.here hx rfl (8 : Int32) (hb hby d2_52) rfl ?_
          refine XS.iand X109.here hx rfl (hb hby d2_54) rfl ?_
          exact cont
        by_cases hc110 : (p1 &&& (8 : Int32)) = 0
        ·
          refine own_go (B := T109.setTop (mkF m 71 #[.val (.ref a), .val (.int p1), .val (.ref b1), .val (.int (2 : Int32))] [(.int (p1 &&& (16 : Int32)))])) (fun tgt cont => ?_) ?_
          · refine XS.ifYes X109.here hx rfl (pc0 := 55) (pc' := 67) rfl (hb hby d2_55) rfl (XT.i0_eq_t hc110) (by decide) (by decide) ?_
            refine XS.iloadN X109.here hx rfl (hb hby d2_67) rfl ?_
            refine XT.bipushV X109.here hx rfl (16 : Int32) (hb hby d2_68) rfl ?_
            refine XS.iand X109.here hx rfl (hb hby d2_70) rfl ?_
            exact cont
          by_cases hc111 : (p1 &&& (16 : Int32)) = 0
          ·
            refine own_go (B := T109.setTop (mkF m 83 #[.val (.ref a), .val (.int p1), .val (.ref b1), .val (.int (2 : Int32))] [])) (fun tgt cont => ?_) ?_
            · refine XS.ifYes X109.here hx rfl (pc0 := 71) (pc' := 83) rfl (hb hby d2_71) rfl (XT.i0_eq_t hc111) (by decide) (by decide) ?_
              exact cont
            exact KP2 _ _ _ (w0) (w2) (own_wide X109 (by decide) (by decide)) e109 N109 kk109 A109v (by unfold own_pick; simp only [if_neg hc49, if_pos hc97, if_neg hc98, if_pos hc110, if_pos hc111, List.nil_append, List.append_nil, List.cons_append])
          ·
            have f112 := (f108.other W109 ne_a_b1)
            refine own_go (B := T109.setTop (mkF m 79 #[.val (.ref a), .val (.int p1), .val (.ref b1), .val (.int (2 : Int32))] [(.int w4), (.int (2 : Int32)), (.ref b1)])) (fun tgt cont => ?_) ?_
            · refine XS.ifNo X109.here hx rfl (hb hby d2_71) rfl (XT.i0_eq_f hc111) ?_
              refine XS.aloadN X109.here hx rfl (hb hby d2_74) rfl rfl ?_
              refine XS.iloadN X109.here hx rfl (hb hby d2_75) rfl ?_
              refine XS.aloadN X109.here hx rfl (hb hby d2_76) rfl rfl ?_
              refine XT.iconstV X109.here hx rfl (4 : Int32) (hb hby d2_77) rfl ?_
              refine own_ldIA X109 hx hZ e109 f112 (j := (4 : Int32)) ⟨by decide, Nat.le_of_ble_eq_true rfl⟩ (g := (mkF m 78 #[.val (.ref a), .val (.int p1), .val (.ref b1), .val (.int (2 : Int32))] [(.int (4 : Int32)), (.ref a), (.int (2 : Int32)), (.ref b1)])) rfl rfl (hb hby d2_78) ?_
              exact cont
            obtain ⟨T113, h113, X113, e113, W113, A113, st113⟩ := own_stIA X109 hx hZ e109 A109v (j := (2 : Int32)) (x := w4) ⟨by decide, Nat.le_of_ble_eq_true rfl⟩ (g := (mkF m 79 #[.val (.ref a), .val (.int p1), .val (.ref b1), .val (.int (2 : Int32))] [(.int w4), (.int (2 : Int32)), (.ref b1)])) rfl rfl (hb hby d2_79)
            have N113 := Fr.snoc X113 N109 g_b1
            have kk113 : Keep h0 h113 [] := kk109.wr W113 (Or.inr sz_b1)
            have zp113 : n0 ≤ h113.size := Nat.le_trans Z0 kk113.1
            have A113v : own_IA Z h113 b1 [w0, w2, w4, (0 : Int32), (0 : Int32)] := A113
            refine own_go (fun tgt cont => st113 tgt cont) ?_
            show own_Go p e below s (Q_rm2 Z a p1 w0 w1 w2 w3 w4 h0 n0) 2 10 (T113.setTop (mkF m 80 #[.val (.ref a), .val (.int p1), .val (.ref b1), .val (.int (2 : Int32))] []))
            refine own_go (B := T113.setTop (mkF m 83 #[.val (.ref a), .val (.int p1), .val (.ref b1), .val (.int (3 : Int32))] [])) (fun tgt cont => ?_) ?_
            · refine XT.iincV X113.here hx rfl (1 : Int32) (hb hby d2_80) rfl rfl (l' := #[.val (.ref a), .val (.int p1), .val (.ref b1), .val (.int (3 : Int32))]) rfl ?_
              exact cont
            exact KP3 _ _ _ (w0) (w2) (w4) (own_wide X113 (by decide) (by decide)) e113 N113 kk113 A113v (by unfold own_pick; simp only [if_neg hc49, if_pos hc97, if_neg hc98, if_pos hc110, if_neg hc111, List.nil_append, List.append_nil, List.cons_append])
        ·
          have f114 := (f108.other W109 ne_a_b1)
          refine own_go (B := T109.setTop (mkF m 63 #[.val (.ref a), .val (.int p1), .val (.ref b1), .val (.int (2 : Int32))] [(.int w3), (.int (2 : Int32)), (.ref b1)])) (fun tgt cont => ?_) ?_
          · refine XS.ifNo X109.here hx rfl (hb hby d2_55) rfl (XT.i0_eq_f hc110) ?_
            refine XS.aloadN X109.here hx rfl (hb hby d2_58) rfl rfl ?_
            refine XS.iloadN X109.here hx rfl (hb hby d2_59) rfl ?_
            refine XS.aloadN X109.here hx rfl (hb hby d2_60) rfl rfl ?_
            refine XT.iconstV X109.here hx rfl (3 : Int32) (hb hby d2_61) rfl ?_
            refine own_ldIA X109 hx hZ e109 f114 (j := (3 : Int32)) ⟨by decide, Nat.le_of_ble_eq_true rfl⟩ (g := (mkF m 62 #[.val (.ref a), .val (.int p1), .val (.ref b1), .val (.int (2 : Int32))] [(.int (3 : Int32)), (.ref a), (.int (2 : Int32)), (.ref b1)])) rfl rfl (hb hby d2_62) ?_
            exact cont
          obtain ⟨T115, h115, X115, e115, W115, A115, st115⟩ := own_stIA X109 hx hZ e109 A109v (j := (2 : Int32)) (x := w3) ⟨by decide, Nat.le_of_ble_eq_true rfl⟩ (g := (mkF m 63 #[.val (.ref a), .val (.int p1), .val (.ref b1), .val (.int (2 : Int32))] [(.int w3), (.int (2 : Int32)), (.ref b1)])) rfl rfl (hb hby d2_63)
          have N115 := Fr.snoc X115 N109 g_b1
          have kk115 : Keep h0 h115 [] := kk109.wr W115 (Or.inr sz_b1)
          have zp115 : n0 ≤ h115.size := Nat.le_trans Z0 kk115.1
          have A115v : own_IA Z h115 b1 [w0, w2, w3, (0 : Int32), (0 : Int32)] := A115
          refine own_go (fun tgt cont => st115 tgt cont) ?_
          show own_Go p e below s (Q_rm2 Z a p1 w0 w1 w2 w3 w4 h0 n0) 2 10 (T115.setTop (mkF m 64 #[.val (.ref a), .val (.int p1), .val (.ref b1), .val (.int (2 : Int32))] []))
          refine own_go (B := T115.setTop (mkF m 71 #[.val (.ref a), .val (.int p1), .val (.ref b1), .val (.int (3 : Int32))] [(.int (p1 &&& (16 : Int32)))])) (fun tgt cont => ?_) ?_
          · refine XT.iincV X115.here hx rfl (1 : Int32) (hb hby d2_64) rfl rfl (l' := #[.val (.ref a), .val (.int p1), .val (.ref b1), .val (.int (3 : Int32))]) rfl ?_
            refine XS.iloadN X115.here hx rfl (hb hby d2_67) rfl ?_
            refine XT.bipushV X115.here hx rfl (16 : Int32) (hb hby d2_68) rfl ?_
            refine XS.iand X115.here hx rfl (hb hby d2_70) rfl ?_
            exact cont
          by_cases hc116 : (p1 &&& (16 : Int32)) = 0
          ·
            refine own_go (B := T115.setTop (mkF m 83 #[.val (.ref a), .val (.int p1), .val (.ref b1), .val (.int (3 : Int32))] [])) (fun tgt cont => ?_) ?_
            · refine XS.ifYes X115.here hx rfl (pc0 := 71) (pc' := 83) rfl (hb hby d2_71) rfl (XT.i0_eq_t hc116) (by decide) (by decide) ?_
              exact cont
            exact KP3 _ _ _ (w0) (w2) (w3) (own_wide X115 (by decide) (by decide)) e115 N115 kk115 A115v (by unfold own_pick; simp only [if_neg hc49, if_pos hc97, if_neg hc98, if_neg hc110, if_pos hc116, List.nil_append, List.append_nil, List.cons_append])
          ·
            have f117 := (f114.other W115 ne_a_b1)
            refine own_go (B := T115.setTop (mkF m 79 #[.val (.ref a), .val (.int p1), .val (.ref b1), .val (.int (3 : Int32))] [(.int w4), (.int (3 : Int32)), (.ref b1)])) (fun tgt cont => ?_) ?_
            · refine XS.ifNo X115.here hx rfl (hb hby d2_71) rfl (XT.i0_eq_f hc116) ?_
              refine XS.aloadN X115.here hx rfl (hb hby d2_74) rfl rfl ?_
              refine XS.iloadN X115.here hx rfl (hb hby d2_75) rfl ?_
              refine XS.aloadN X115.here hx rfl (hb hby d2_76) rfl rfl ?_
              refine XT.iconstV X115.here hx rfl (4 : Int32) (hb hby d2_77) rfl ?_
              refine own_ldIA X115 hx hZ e115 f117 (j := (4 : Int32)) ⟨by decide, Nat.le_of_ble_eq_true rfl⟩ (g := (mkF m 78 #[.val (.ref a), .val (.int p1), .val (.ref b1), .val (.int (3 : Int32))] [(.int (4 : Int32)), (.ref a), (.int (3 : Int32)), (.ref b1)])) rfl rfl (hb hby d2_78) ?_
              exact cont
            obtain ⟨T118, h118, X118, e118, W118, A118, st118⟩ := own_stIA X115 hx hZ e115 A115v (j := (3 : Int32)) (x := w4) ⟨by decide, Nat.le_of_ble_eq_true rfl⟩ (g := (mkF m 79 #[.val (.ref a), .val (.int p1), .val (.ref b1), .val (.int (3 : Int32))] [(.int w4), (.int (3 : Int32)), (.ref b1)])) rfl rfl (hb hby d2_79)
            have N118 := Fr.snoc X118 N115 g_b1
            have kk118 : Keep h0 h118 [] := kk115.wr W118 (Or.inr sz_b1)
            have zp118 : n0 ≤ h118.size := Nat.le_trans Z0 kk118.1
            have A118v : own_IA Z h118 b1 [w0, w2, w3, w4, (0 : Int32)] := A118
            refine own_go (fun tgt cont => st118 tgt cont) ?_
            show own_Go p e below s (Q_rm2 Z a p1 w0 w1 w2 w3 w4 h0 n0) 2 10 (T118.setTop (mkF m 80 #[.val (.ref a), .val (.int p1), .val (.ref b1), .val (.int (3 : Int32))] []))
            refine own_go (B := T118.setTop (mkF m 83 #[.val (.ref a), .val (.int p1), .val (.ref b1), .val (.int (4 : Int32))] [])) (fun tgt cont => ?_) ?_
            · refine XT.iincV X118.here hx rfl (1 : Int32) (hb hby d2_80) rfl rfl (l' := #[.val (.ref a), .val (.int p1), .val (.ref b1), .val (.int (4 : Int32))]) rfl ?_
              exact cont
            exact KP4 _ _ _ (w0) (w2) (w3) (w4) (own_wide X118 (by decide) (by decide)) e118 N118 kk118 A118v (by unfold own_pick; simp only [if_neg hc49, if_pos hc97, if_neg hc98, if_neg hc110, if_neg hc116, List.nil_append, List.append_nil, List.cons_append])
    ·
      have f119 := (f95.other W96 ne_a_b1)
      refine own_go (B := T96.setTop (mkF m 32 #[.val (.ref a), .val (.int p1), .val (.ref b1), .val (.int (1 : Int32))] [(.int w1), (.int (1 : Int32)), (.ref b1)])) (fun tgt cont => ?_) ?_
      · refine XS.ifNo X96.here hx rfl (hb hby d2_24) rfl (XT.i0_eq_f hc97) ?_
        refine XS.aloadN X96.here hx rfl (hb hby d2_27) rfl rfl ?_
        refine XS.iloadN X96.here hx rfl (hb hby d2_28) rfl ?_
        refine XS.aloadN X96.here hx rfl (hb hby d2_29) rfl rfl ?_
        refine XT.iconstV X96.here hx rfl (1 : Int32) (hb hby d2_30) rfl ?_
        refine own_ldIA X96 hx hZ e96 f119 (j := (1 : Int32)) ⟨by decide, Nat.le_of_ble_eq_true rfl⟩ (g := (mkF m 31 #[.val (.ref a), .val (.int p1), .val (.ref b1), .val (.int (1 : Int32))] [(.int (1 : Int32)), (.ref a), (.int (1 : Int32)), (.ref b1)])) rfl rfl (hb hby d2_31) ?_
        exact cont
      obtain ⟨T120, h120, X120, e120, W120, A120, st120⟩ := own_stIA X96 hx hZ e96 A96v (j := (1 : Int32)) (x := w1) ⟨by decide, Nat.le_of_ble_eq_true rfl⟩ (g := (mkF m 32 #[.val (.ref a), .val (.int p1), .val (.ref b1), .val (.int (1 : Int32))] [(.int w1), (.int (1 : Int32)), (.ref b1)])) rfl rfl (hb hby d2_32)
      have N120 := Fr.snoc X120 N96 g_b1
      have kk120 : Keep h0 h120 [] := kk96.wr W120 (Or.inr sz_b1)
      have zp120 : n0 ≤ h120.size := Nat.le_trans Z0 kk120.1
      have A120v : own_IA Z h120 b1 [w0, w1, (0 : Int32), (0 : Int32), (0 : Int32)] := A120
      refine own_go (fun tgt cont => st120 tgt cont) ?_
      show own_Go p e below s (Q_rm2 Z a p1 w0 w1 w2 w3 w4 h0 n0) 2 10 (T120.setTop (mkF m 33 #[.val (.ref a), .val (.int p1), .val (.ref b1), .val (.int (1 : Int32))] []))
      refine own_go (B := T120.setTop (mkF m 39 #[.val (.ref a), .val (.int p1), .val (.ref b1), .val (.int (2 : Int32))] [(.int (p1 &&& (4 : Int32)))])) (fun tgt cont => ?_) ?_
      · refine XT.iincV X120.here hx rfl (1 : Int32) (hb hby d2_33) rfl rfl (l' := #[.val (.ref a), .val (.int p1), .val (.ref b1), .val (.int (2 : Int32))]) rfl ?_
        refine XS.iloadN X120.here hx rfl (hb hby d2_36) rfl ?_
        refine XT.iconstV X120.here hx rfl (4 : Int32) (hb hby d2_37) rfl ?_
        refine XS.iand X120.here hx rfl (hb hby d2_38) rfl ?_
        exact cont
      by_cases hc121 : (p1 &&& (4 : Int32)) = 0
      ·
        refine own_go (B := T120.setTop (mkF m 55 #[.val (.ref a), .val (.int p1), .val (.ref b1), .val (.int (2 : Int32))] [(.int (p1 &&& (8 : Int32)))])) (fun tgt cont => ?_) ?_
        · refine XS.ifYes X120.here hx rfl (pc0 := 39) (pc' := 51) rfl (hb hby d2_39) rfl (XT.i0_eq_t hc121) (by decide) (by decide) ?_
          refine XS.iloadN X120.here hx rfl (hb hby d2_51) rfl ?_
          refine XT.bipushV X120.here hx rfl (8 : Int32) (hb hby d2_52) rfl ?_
          refine XS.iand X120.here hx rfl (hb hby d2_54) rfl ?_
          exact cont
        by_cases hc122 : (p1 &&& (8 : Int32)) = 0
        ·
          refine own_go (B := T120.setTop (mkF m 71 #[.val (.ref a), .val (.int p1), .val (.ref b1), .val (.int (2 : Int32))] [(.int (p1 &&& (16 : Int32)))])) (fun tgt cont => ?_) ?_
          · refine XS.ifYes X120.here hx rfl (pc0 := 55) (pc' := 67) rfl (hb hby d2_55) rfl (XT.i0_eq_t hc122) (by decide) (by decide) ?_
            refine XS.iloadN X120.here hx rfl (hb hby d2_67) rfl ?_
            refine XT.bipushV X120.here hx rfl (16 : Int32) (hb hby d2_68) rfl ?_
            refine XS.iand X120.here hx rfl (hb hby d2_70) rfl ?_
            exact cont
          by_cases hc123 : (p1 &&& (16 : Int32)) = 0
          ·
            refine own_go (B := T120.setTop (mkF m 83 #[.val (.ref a), .val (.int p1), .val (.ref b1), .val (.int (2 : Int32))] [])) (fun tgt cont => ?_) ?_
            · refine XS.ifYes X120.here hx rfl (pc0 := 71) (pc' := 83) rfl (hb hby d2_71) rfl (XT.i0_eq_t hc123) (by decide) (by decide) ?_
              exact cont
            exact KP2 _ _ _ (w0) (w1) (own_wide X120 (by decide) (by decide)) e120 N120 kk120 A120v (by unfold own_pick; simp only [if_neg hc49, if_neg hc97, if_pos hc121, if_pos hc122, if_pos hc123, List.nil_append, List.append_nil, List.cons_append])
          ·
            have f124 := (f119.other W120 ne_a_b1)
            refine own_go (B := T120.setTop (mkF m 79 #[.val (.ref a), .val (.int p1), .val (.ref b1), .val (.int (2 : Int32))] [(.int w4), (.int (2 : Int32)), (.ref b1)])) (fun tgt cont => ?_) ?_
            · refine XS.ifNo X120.here hx rfl (hb hby d2_71) rfl (XT.i0_eq_f hc123) ?_
              refine XS.aloadN X120.here hx rfl (hb hby d2_74) rfl rfl ?_
              refine XS.iloadN X120.here hx rfl (hb hby d2_75) rfl ?_
              refine XS.aloadN X120.here hx rfl (hb hby d2_76) rfl rfl ?_
              refine XT.iconstV X120.here hx rfl (4 : Int32) (hb hby d2_77) rfl ?_
              refine own_ldIA X120 hx hZ e120 f124 (j := (4 : Int32)) ⟨by decide, Nat.le_of_ble_eq_true rfl⟩ (g := (mkF m 78 #[.val (.ref a), .val (.int p1), .val (.ref b1), .val (.int (2 : Int32))] [(.int (4 : Int32)), (.ref a), (.int (2 : Int32)), (.ref b1)])) rfl rfl (hb hby d2_78) ?_
              exact cont
            obtain ⟨T125, h125, X125, e125, W125, A125, st125⟩ := own_stIA X120 hx hZ e120 A120v (j := (2 : Int32)) (x := w4) ⟨by decide, Nat.le_of_ble_eq_true rfl⟩ (g := (mkF m 79 #[.val (.ref a), .val (.int p1), .val (.ref b1), .val (.int (2 : Int32))] [(.int w4), (.int (2 : Int32)), (.ref b1)])) rfl rfl (hb hby d2_79)
            have N125 := Fr.snoc X125 N120 g_b1
            have kk125 : Keep h0 h125 [] := kk120.wr W125 (Or.inr sz_b1)
            have zp125 : n0 ≤ h125.size := Nat.le_trans Z0 kk125.1
            have A125v : own_IA Z h125 b1 [w0, w1, w4, (0 : Int32), (0 : Int32)] := A125
            refine own_go (fun tgt cont => st125 tgt cont) ?_
            show own_Go p e below s (Q_rm2 Z a p1 w0 w1 w2 w3 w4 h0 n0) 2 10 (T125.setTop (mkF m 80 #[.val (.ref a), .val (.int p1), .val (.ref b1), .val (.int (2 : Int32))] []))
            refine own_go (B := T125.setTop (mkF m 83 #[.val (.ref a), .val (.int p1), .val (.ref b1), .val (.int (3 : Int32))] [])) (fun tgt cont => ?_) ?_
            · refine XT.iincV X125.here hx rfl (1 : Int32) (hb hby d2_80) rfl rfl (l' := #[.val (.ref a), .val (.int p1), .val (.ref b1), .val (.int (3 : Int32))]) rfl ?_
              exact cont
            exact KP3 _ _ _ (w0) (w1) (w4) (own_wide X125 (by decide) (by decide)) e125 N125 kk125 A125v (by unfold own_pick; simp only [if_neg hc49, if_neg hc97, if_pos hc121, if_pos hc122, if_neg hc123, List.nil_append, List.append_nil, List.cons_append])
        ·
          have f126 := (f119.other W120 ne_a_b1)
          refine own_go (B := T120.setTop (mkF m 63 #[.val (.ref a), .val (.int p1), .val (.ref b1), .val (.int (2 : Int32))] [(.int w3), (.int (2 : Int32)), (.ref b1)])) (fun tgt cont => ?_) ?_
          · refine XS.ifNo X120.here hx rfl (hb hby d2_55) rfl (XT.i0_eq_f hc122) ?_
            refine XS.aloadN X120.here hx rfl (hb hby d2_58) rfl rfl ?_
            refine XS.iloadN X120.here hx rfl (hb hby d2_59) rfl ?_
            refine XS.aloadN X120.here hx rfl (hb hby d2_60) rfl rfl ?_
            refine XT.iconstV X120.here hx rfl (3 : Int32) (hb hby d2_61) rfl ?_
            refine own_ldIA X120 hx hZ e120 f126 (j := (3 : Int32)) ⟨by decide, Nat.le_of_ble_eq_true rfl⟩ (g := (mkF m 62 #[.val (.ref a), .val (.int p1), .val (.ref b1), .val (.int (2 : Int32))] [(.int (3 : Int32)), (.ref a), (.int (2 : Int32)), (.ref b1)])) rfl rfl (hb hby d2_62) ?_
            exact cont
          obtain ⟨T127, h127, X127, e127, W127, A127, st127⟩ := own_stIA X120 hx hZ e120 A120v (j := (2 : Int32)) (x := w3) ⟨by decide, Nat.le_of_ble_eq_true rfl⟩ (g := (mkF m 63 #[.val (.ref a), .val (.int p1), .val (.ref b1), .val (.int (2 : Int32))] [(.int w3), (.int (2 : Int32)), (.ref b1)])) rfl rfl (hb hby d2_63)
          have N127 := Fr.snoc X127 N120 g_b1
          have kk127 : Keep h0 h127 [] := kk120.wr W127 (Or.inr sz_b1)
          have zp127 : n0 ≤ h127.size := Nat.le_trans Z0 kk127.1
          have A127v : own_IA Z h127 b1 [w0, w1, w3, (0 : Int32), (0 : Int32)] := A127
          refine own_go (fun tgt cont => st127 tgt cont) ?_
          show own_Go p e below s (Q_rm2 Z a p1 w0 w1 w2 w3 w4 h0 n0) 2 10 (T127.setTop (mkF m 64 #[.val (.ref a), .val (.int p1), .val (.ref b1), .val (.int (2 : Int32))] []))
          refine own_go (B := T127.setTop (mkF m 71 #[.val (.ref a), .val (.int p1), .val (.ref b1), .val (.int (3 : Int32))] [(.int (p1 &&& (16 : Int32)))])) (fun tgt cont => ?_) ?_
          · refine XT.iincV X127.here hx rfl (1 : Int32) (hb hby d2_64) rfl rfl (l' := #[.val (.ref a), .val (.int p1), .val (.ref b1), .val (.int (3 : Int32))]) rfl ?_
            refine XS.iloadN X127.here hx rfl (hb hby d2_67) rfl ?_
            refine XT.bipushV X127.here hx rfl (16 : Int32) (hb hby d2_68) rfl ?_
            refine XS.iand X127.here hx rfl (hb hby d2_70) rfl ?_
            exact cont
          by_cases hc128 : (p1 &&& (16 : Int32)) = 0
          ·
            refine own_go (B := T127.setTop (mkF m 83 #[.val (.ref a), .val (.int p1), .val (.ref b1), .val (.int (3 : Int32))] [])) (fun tgt cont => ?_) ?_
            · refine XS.ifYes X127.here hx rfl (pc0 := 71) (pc' := 83) rfl (hb hby d2_71) rfl (XT.i0_eq_t hc128) (by decide) (by decide) ?_
              exact cont
            exact KP3 _ _ _ (w0) (w1) (w3) (own_wide X127 (by decide) (by decide)) e127 N127 kk127 A127v (by unfold own_pick; simp only [if_neg hc49, if_neg hc97, if_pos hc121, if_neg hc122, if_pos hc128, List.nil_append, List.append_nil, List.cons_append])
          ·
            have f129 := (f126.other W127 ne_a_b1)
            refine own_go (B := T127.setTop (mkF m 79 #[.val (.ref a), .val (.int p1), .val (.ref b1), .val (.int (3 : Int32))] [(.int w4), (.int (3 : Int32)), (.ref b1)])) (fun tgt cont => ?_) ?_
            · refine XS.ifNo X127.here hx rfl (hb hby d2_71) rfl (XT.i0_eq_f hc128) ?_
              refine XS.aloadN X127.here hx rfl (hb hby d2_74) rfl rfl ?_
              refine XS.iloadN X127.here hx rfl (hb hby d2_75) rfl ?_
              refine XS.aloadN X127.here hx rfl (hb hby d2_76) rfl rfl ?_
              refine XT.iconstV X127.here hx rfl (4 : Int32) (hb hby d2_77) rfl ?_
              refine own_ldIA X127 hx hZ e127 f129 (j := (4 : Int32)) ⟨by decide, Nat.le_of_ble_eq_true rfl⟩ (g := (mkF m 78 #[.val (.ref a), .val (.int p1), .val (.ref b1), .val (.int (3 : Int32))] [(.int (4 : Int32)), (.ref a), (.int (3 : Int32)), (.ref b1)])) rfl rfl (hb hby d2_78) ?_
              exact cont
            obtain ⟨T130, h130, X130, e130, W130, A130, st130⟩ := own_stIA X127 hx hZ e127 A127v (j := (3 : Int32)) (x := w4) ⟨by decide, Nat.le_of_ble_eq_true rfl⟩ (g := (mkF m 79 #[.val (.ref a), .val (.int p1), .val (.ref b1), .val (.int (3 : Int32))] [(.int w4), (.int (3 : Int32)), (.ref b1)])) rfl rfl (hb hby d2_79)
            have N130 := Fr.snoc X130 N127 g_b1
            have kk130 : Keep h0 h130 [] := kk127.wr W130 (Or.inr sz_b1)
            have zp130 : n0 ≤ h130.size := Nat.le_trans Z0 kk130.1
            have A130v : own_IA Z h130 b1 [w0, w1, w3, w4, (0 : Int32)] := A130
            refine own_go (fun tgt cont => st130 tgt cont) ?_
            show own_Go p e below s (Q_rm2 Z a p1 w0 w1 w2 w3 w4 h0 n0) 2 10 (T130.setTop (mkF m 80 #[.val (.ref a), .val (.int p1), .val (.ref b1), .val (.int (3 : Int32))] []))
            refine own_go (B := T130.setTop (mkF m 83 #[.val (.ref a), .val (.int p1), .val (.ref b1), .val (.int (4 : Int32))] [])) (fun tgt cont => ?_) ?_
            · refine XT.iincV X130.here hx rfl (1 : Int32) (hb hby d2_80) rfl rfl (l' := #[.val (.ref a), .val (.int p1), .val (.ref b1), .val (.int (4 : Int32))]) rfl ?_
              exact cont
            exact KP4 _ _ _ (w0) (w1) (w3) (w4) (own_wide X130 (by decide) (by decide)) e130 N130 kk130 A130v (by unfold own_pick; simp only [if_neg hc49, if_neg hc97, if_pos hc121, if_neg hc122, if_neg hc128, List.nil_append, List.append_nil, List.cons_append])
      ·
        have f131 := (f119.other W120 ne_a_b1)
        refine own_go (B := T120.setTop (mkF m 47 #[.val (.ref a), .val (.int p1), .val (.ref b1), .val (.int (2 : Int32))] [(.int w2), (.int (2 : Int32)), (.ref b1)])) (fun tgt cont => ?_) ?_
        · refine XS.ifNo X120.here hx rfl (hb hby d2_39) rfl (XT.i0_eq_f hc121) ?_
          refine XS.aloadN X120.here hx rfl (hb hby d2_42) rfl rfl ?_
          refine XS.iloadN X120.here hx rfl (hb hby d2_43) rfl ?_
          refine XS.aloadN X120.here hx rfl (hb hby d2_44) rfl rfl ?_
          refine XT.iconstV X120.here hx rfl (2 : Int32) (hb hby d2_45) rfl ?_
          refine own_ldIA X120 hx hZ e120 f131 (j := (2 : Int32)) ⟨by decide, Nat.le_of_ble_eq_true rfl⟩ (g := (mkF m 46 #[.val (.ref a), .val (.int p1), .val (.ref b1), .val (.int (2 : Int32))] [(.int (2 : Int32)), (.ref a), (.int (2 : Int32)), (.ref b1)])) rfl rfl (hb hby d2_46) ?_
          exact cont
        obtain ⟨T132, h132, X132, e132, W132, A132, st132⟩ := own_stIA X120 hx hZ e120 A120v (j := (2 : Int32)) (x := w2) ⟨by decide, Nat.le_of_ble_eq_true rfl⟩ (g := (mkF m 47 #[.val (.ref a), .val (.int p1), .val (.ref b1), .val (.int (2 : Int32))] [(.int w2), (.int (2 : Int32)), (.ref b1)])) rfl rfl (hb hby d2_47)
        have N132 := Fr.snoc X132 N120 g_b1
        have kk132 : Keep h0 h132 [] := kk120.wr W132 (Or.inr sz_b1)
        have zp132 : n0 ≤ h132.size := Nat.le_trans Z0 kk132.1
        have A132v : own_IA Z h132 b1 [w0, w1, w2, (0 : Int32), (0 : Int32)] := A132
        refine own_go (fun tgt cont => st132 tgt cont) ?_
        show own_Go p e below s (Q_rm2 Z a p1 w0 w1 w2 w3 w4 h0 n0) 2 10 (T132.setTop (mkF m 48 #[.val (.ref a), .val (.int p1), .val (.ref b1), .val (.int (2 : Int32))] []))
        refine own_go (B := T132.setTop (mkF m 55 #[.val (.ref a), .val (.int p1), .val (.ref b1), .val (.int (3 : Int32))] [(.int (p1 &&& (8 : Int32)))])) (fun tgt cont => ?_) ?_
        · refine XT.iincV X132.here hx rfl (1 : Int32) (hb hby d2_48) rfl rfl (l' := #[.val (.ref a), .val (.int p1), .val (.ref b1), .val (.int (3 : Int32))]) rfl ?_
          refine XS.iloadN X132.here hx rfl (hb hby d2_51) rfl ?_
          refine XT.bipushV X132.here hx rfl (8 : Int32) (hb hby d2_52) rfl ?_
          refine XS.iand X132.here hx rfl (hb hby d2_54) rfl ?_
          exact cont
        by_cases hc133 : (p1 &&& (8 : Int32)) = 0
        ·
          refine own_go (B := T132.setTop (mkF m 71 #[.val (.ref a), .val (.int p1), .val (.ref b1), .val (.int (3 : Int32))] [(.int (p1 &&& (16 : Int32)))])) (fun tgt cont => ?_) ?_
          · refine XS.ifYes X132.here hx rfl (pc0 := 55) (pc' := 67) rfl (hb hby d2_55) rfl (XT.i0_eq_t hc133) (by decide) (by decide) ?_
            refine XS.iloadN X132.here hx rfl (hb hby d2_67) rfl ?_
            refine XT.bipushV X132.here hx rfl (16 : Int32) (hb hby d2_68) rfl ?_
            refine XS.iand X132.here hx rfl (hb hby d2_70) rfl ?_
            exact cont
          by_cases hc134 : (p1 &&& (16 : Int32)) = 0
          ·
            refine own_go (B := T132.setTop (mkF m 83 #[.val (.ref a), .val (.int p1), .val (.ref b1), .val (.int (3 : Int32))] [])) (fun tgt cont => ?_) ?_
            · refine XS.ifYes X132.here hx rfl (pc0 := 71) (pc' := 83) rfl (hb hby d2_71) rfl (XT.i0_eq_t hc134) (by decide) (by decide) ?_
              exact cont
            exact KP3 _ _ _ (w0) (w1) (w2) (own_wide X132 (by decide) (by decide)) e132 N132 kk132 A132v (by unfold own_pick; simp only [if_neg hc49, if_neg hc97, if_neg hc121, if_pos hc133, if_pos hc134, List.nil_append, List.append_nil, List.cons_append])
          ·
            have f135 := (f131.other W132 ne_a_b1)
            refine own_go (B := T132.setTop (mkF m 79 #[.val (.ref a), .val (.int p1), .val (.ref b1), .val (.int (3 : Int32))] [(.int w4), (.int (3 : Int32)), (.ref b1)])) (fun tgt cont => ?_) ?_
            · refine XS.ifNo X132.here hx rfl (hb hby d2_71) rfl (XT.i0_eq_f hc134) ?_
              refine XS.aloadN X132.here hx rfl (hb hby d2_74) rfl rfl ?_
              refine XS.iloadN X132.here hx rfl (hb hby d2_75) rfl ?_
              refine XS.aloadN X132.here hx rfl (hb hby d2_76) rfl rfl ?_
              refine XT.iconstV X132.here hx rfl (4 : Int32) (hb hby d2_77) rfl ?_
              refine own_ldIA X132 hx hZ e132 f135 (j := (4 : Int32)) ⟨by decide, Nat.le_of_ble_eq_true rfl⟩ (g := (mkF m 78 #[.val (.ref a), .val (.int p1), .val (.ref b1), .val (.int (3 : Int32))] [(.int (4 : Int32)), (.ref a), (.int (3 : Int32)), (.ref b1)])) rfl rfl (hb hby d2_78) ?_
              exact cont
            obtain ⟨T136, h136, X136, e136, W136, A136, st136⟩ := own_stIA X132 hx hZ e132 A132v (j := (3 : Int32)) (x := w4) ⟨by decide, Nat.le_of_ble_eq_true rfl⟩ (g := (mkF m 79 #[.val (.ref a), .val (.int p1), .val (.ref b1), .val (.int (3 : Int32))] [(.int w4), (.int (3 : Int32)), (.ref b1)])) rfl rfl (hb hby d2_79)
            have N136 := Fr.snoc X136 N132 g_b1
            have kk136 : Keep h0 h136 [] := kk132.wr W136 (Or.inr sz_b1)
            have zp136 : n0 ≤ h136.size := Nat.le_trans Z0 kk136.1
            have A136v : own_IA Z h136 b1 [w0, w1, w2, w4, (0 : Int32)] := A136
            refine own_go (fun tgt cont => st136 tgt cont) ?_
            show own_Go p e below s (Q_rm2 Z a p1 w0 w1 w2 w3 w4 h0 n0) 2 10 (T136.setTop (mkF m 80 #[.val (.ref a), .val (.int p1), .val (.ref b1), .val (.int (3 : Int32))] []))
            refine own_go (B := T136.setTop (mkF m 83 #[.val (.ref a), .val (.int p1), .val (.ref b1), .val (.int (4 : Int32))] [])) (fun tgt cont => ?_) ?_
            · refine XT.iincV X136.here hx rfl (1 : Int32) (hb hby d2_80) rfl rfl (l' := #[.val (.ref a), .val (.int p1), .val (.ref b1), .val (.int (4 : Int32))]) rfl ?_
              exact cont
            exact KP4 _ _ _ (w0) (w1) (w2) (w4) (own_wide X136 (by decide) (by decide)) e136 N136 kk136 A136v (by unfold own_pick; simp only [if_neg hc49, if_neg hc97, if_neg hc121, if_pos hc133, if_neg hc134, List.nil_append, List.append_nil, List.cons_append])
        ·
          have f137 := (f131.other W132 ne_a_b1)
          refine own_go (B := T132.setTop (mkF m 63 #[.val (.ref a), .val (.int p1), .val (.ref b1), .val (.int (3 : Int32))] [(.int w3), (.int (3 : Int32)), (.ref b1)])) (fun tgt cont => ?_) ?_
          · refine XS.ifNo X132.here hx rfl (hb hby d2_55) rfl (XT.i0_eq_f hc133) ?_
            refine XS.aloadN X132.here hx rfl (hb hby d2_58) rfl rfl ?_
            refine XS.iloadN X132.here hx rfl (hb hby d2_59) rfl ?_
            refine XS.aloadN X132.here hx rfl (hb hby d2_60) rfl rfl ?_
            refine XT.iconstV X132.here hx rfl (3 : Int32) (hb hby d2_61) rfl ?_
            refine own_ldIA X132 hx hZ e132 f137 (j := (3 : Int32)) ⟨by decide, Nat.le_of_ble_eq_true rfl⟩ (g := (mkF m 62 #[.val (.ref a), .val (.int p1), .val (.ref b1), .val (.int (3 : Int32))] [(.int (3 : Int32)), (.ref a), (.int (3 : Int32)), (.ref b1)])) rfl rfl (hb hby d2_62) ?_
            exact cont
          obtain ⟨T138, h138, X138, e138, W138, A138, st138⟩ := own_stIA X132 hx hZ e132 A132v (j := (3 : Int32)) (x := w3) ⟨by decide, Nat.le_of_ble_eq_true rfl⟩ (g := (mkF m 63 #[.val (.ref a), .val (.int p1), .val (.ref b1), .val (.int (3 : Int32))] [(.int w3), (.int (3 : Int32)), (.ref b1)])) rfl rfl (hb hby d2_63)
          have N138 := Fr.snoc X138 N132 g_b1
          have kk138 : Keep h0 h138 [] := kk132.wr W138 (Or.inr sz_b1)
          have zp138 : n0 ≤ h138.size := Nat.le_trans Z0 kk138.1
          have A138v : own_IA Z h138 b1 [w0, w1, w2, w3, (0 : Int32)] := A138
          refine own_go (fun tgt cont => st138 tgt cont) ?_
          show own_Go p e below s (Q_rm2 Z a p1 w0 w1 w2 w3 w4 h0 n0) 2 10 (T138.setTop (mkF m 64 #[.val (.ref a), .val (.int p1), .val (.ref b1), .val (.int (3 : Int32))] []))
          refine own_go (B := T138.setTop (mkF m 71 #[.val (.ref a), .val (.int p1), .val (.ref b1), .val (.int (4 : Int32))] [(.int (p1 &&& (16 : Int32)))])) (fun tgt cont => ?_) ?_
          · refine XT.iincV X138.here hx rfl (1 : Int32) (hb hby d2_64) rfl rfl (l' := #[.val (.ref a), .val (.int p1), .val (.ref b1), .val (.int (4 : Int32))]) rfl ?_
            refine XS.iloadN X138.here hx rfl (hb hby d2_67) rfl ?_
            refine XT.bipushV X138.here hx rfl (16 : Int32) (hb hby d2_68) rfl ?_
            refine XS.iand X138.here hx rfl (hb hby d2_70) rfl ?_
            exact cont
          by_cases hc139 : (p1 &&& (16 : Int32)) = 0
          ·
            refine own_go (B := T138.setTop (mkF m 83 #[.val (.ref a), .val (.int p1), .val (.ref b1), .val (.int (4 : Int32))] [])) (fun tgt cont => ?_) ?_
            · refine XS.ifYes X138.here hx rfl (pc0 := 71) (pc' := 83) rfl (hb hby d2_71) rfl (XT.i0_eq_t hc139) (by decide) (by decide) ?_
              exact cont
            exact KP4 _ _ _ (w0) (w1) (w2) (w3) (own_wide X138 (by decide) (by decide)) e138 N138 kk138 A138v (by unfold own_pick; simp only [if_neg hc49, if_neg hc97, if_neg hc121, if_neg hc133, if_pos hc139, List.nil_append, List.append_nil, List.cons_append])
          ·
            have f140 := (f137.other W138 ne_a_b1)
            refine own_go (B := T138.setTop (mkF m 79 #[.val (.ref a), .val (.int p1), .val (.ref b1), .val (.int (4 : Int32))] [(.int w4), (.int (4 : Int32)), (.ref b1)])) (fun tgt cont => ?_) ?_
            · refine XS.ifNo X138.here hx rfl (hb hby d2_71) rfl (XT.i0_eq_f hc139) ?_
              refine XS.aloadN X138.here hx rfl (hb hby d2_74) rfl rfl ?_
              refine XS.iloadN X138.here hx rfl (hb hby d2_75) rfl ?_
              refine XS.aloadN X138.here hx rfl (hb hby d2_76) rfl rfl ?_
              refine XT.iconstV X138.here hx rfl (4 : Int32) (hb hby d2_77) rfl ?_
              refine own_ldIA X138 hx hZ e138 f140 (j := (4 : Int32)) ⟨by decide, Nat.le_of_ble_eq_true rfl⟩ (g := (mkF m 78 #[.val (.ref a), .val (.int p1), .val (.ref b1), .val (.int (4 : Int32))] [(.int (4 : Int32)), (.ref a), (.int (4 : Int32)), (.ref b1)])) rfl rfl (hb hby d2_78) ?_
              exact cont
            obtain ⟨T141, h141, X141, e141, W141, A141, st141⟩ := own_stIA X138 hx hZ e138 A138v (j := (4 : Int32)) (x := w4) ⟨by decide, Nat.le_of_ble_eq_true rfl⟩ (g := (mkF m 79 #[.val (.ref a), .val (.int p1), .val (.ref b1), .val (.int (4 : Int32))] [(.int w4), (.int (4 : Int32)), (.ref b1)])) rfl rfl (hb hby d2_79)
            have N141 := Fr.snoc X141 N138 g_b1
            have kk141 : Keep h0 h141 [] := kk138.wr W141 (Or.inr sz_b1)
            have zp141 : n0 ≤ h141.size := Nat.le_trans Z0 kk141.1
            have A141v : own_IA Z h141 b1 [w0, w1, w2, w3, w4] := A141
            refine own_go (fun tgt cont => st141 tgt cont) ?_
            show own_Go p e below s (Q_rm2 Z a p1 w0 w1 w2 w3 w4 h0 n0) 2 10 (T141.setTop (mkF m 80 #[.val (.ref a), .val (.int p1), .val (.ref b1), .val (.int (4 : Int32))] []))
            refine own_go (B := T141.setTop (mkF m 83 #[.val (.ref a), .val (.int p1), .val (.ref b1), .val (.int (5 : Int32))] [])) (fun tgt cont => ?_) ?_
            · refine XT.iincV X141.here hx rfl (1 : Int32) (hb hby d2_80) rfl rfl (l' := #[.val (.ref a), .val (.int p1), .val (.ref b1), .val (.int (5 : Int32))]) rfl ?_
              exact cont
            exact KP5 _ _ _ (w0) (w1) (w2) (w3) (w4) (own_wide X141 (by decide) (by decide)) e141 N141 kk141 A141v (by unfold own_pick; simp only [if_neg hc49, if_neg hc97, if_neg hc121, if_neg hc133, if_neg hc139, List.nil_append, List.append_nil, List.cons_append])
def own_hd : List Int32 → List Int32 → Int32
  | [], _ => 1
  | p :: ps, set => match set.dropWhile (fun x => decide (x < p)) with
    | [] => 0
    | x :: xs => if x = p then own_hd ps (x :: xs) else 0
theorem own_hd_lt {p x : Int32} {ps xs : List Int32} (h : x < p) : own_hd (p :: ps) (x :: xs) = own_hd (p :: ps) xs := by
  rw [own_hd, own_hd, List.dropWhile_cons_of_pos (by simpa using h)]
theorem own_hd_ge {p x : Int32} {ps xs : List Int32} (h : ¬ x < p) : own_hd (p :: ps) (x :: xs) = if x = p then own_hd ps (x :: xs) else 0 := by
  rw [own_hd, List.dropWhile_cons_of_neg (by simpa using h)]
def Q_rm3 (Z : State) (a : Addr) (b : Addr) (vs : List Int32) (us : List Int32) (h0 : Heap) (n0 : Nat) (v : Option Value) (h : Heap) (L : List Loc) : Prop := v = some (.int (own_hd us vs)) ∧ Fr n0 L ∧ h = h0
theorem own_pn1 : plainName "com/example/treebound/treebound/SortedSets" = true := by first | (simp [plainName, overriddenIn]; done) | decide +kernel
theorem d3_0 : decode prog_44_method_2_code 0 = .ok (.iconst 0, 1) := by decide +kernel
theorem d3_1 : decode prog_44_method_2_code 1 = .ok (.istore_n 2, 1) := by decide +kernel
theorem d3_2 : decode prog_44_method_2_code 2 = .ok (.aload_n 1, 1) := by decide +kernel
theorem d3_3 : decode prog_44_method_2_code 3 = .ok (.astore_n 3, 1) := by decide +kernel
theorem d3_4 : decode prog_44_method_2_code 4 = .ok (.aload_n 3, 1) := by decide +kernel
theorem d3_5 : decode prog_44_method_2_code 5 = .ok (.arraylength, 1) := by decide +kernel
theorem d3_6 : decode prog_44_method_2_code 6 = .ok (.istore 4, 2) := by decide +kernel
theorem d3_8 : decode prog_44_method_2_code 8 = .ok (.iconst 0, 1) := by decide +kernel
theorem d3_9 : decode prog_44_method_2_code 9 = .ok (.istore 5, 2) := by decide +kernel
theorem d3_11 : decode prog_44_method_2_code 11 = .ok (.iload 5, 2) := by decide +kernel
theorem d3_13 : decode prog_44_method_2_code 13 = .ok (.iload 4, 2) := by decide +kernel
theorem d3_15 : decode prog_44_method_2_code 15 = .ok (.if_icmp .ge 51, 3) := by decide +kernel
theorem d3_18 : decode prog_44_method_2_code 18 = .ok (.aload_n 3, 1) := by decide +kernel
theorem d3_19 : decode prog_44_method_2_code 19 = .ok (.iload 5, 2) := by decide +kernel
theorem d3_21 : decode prog_44_method_2_code 21 = .ok (.iaload, 1) := by decide +kernel
theorem d3_22 : decode prog_44_method_2_code 22 = .ok (.istore 6, 2) := by decide +kernel
theorem d3_24 : decode prog_44_method_2_code 24 = .ok (.iload_n 2, 1) := by decide +kernel
theorem d3_25 : decode prog_44_method_2_code 25 = .ok (.aload_n 0, 1) := by decide +kernel
theorem d3_26 : decode prog_44_method_2_code 26 = .ok (.arraylength, 1) := by decide +kernel
theorem d3_27 : decode prog_44_method_2_code 27 = .ok (.if_icmp .ge 17, 3) := by decide +kernel
theorem d3_30 : decode prog_44_method_2_code 30 = .ok (.aload_n 0, 1) := by decide +kernel
theorem d3_31 : decode prog_44_method_2_code 31 = .ok (.iload_n 2, 1) := by decide +kernel
theorem d3_32 : decode prog_44_method_2_code 32 = .ok (.iaload, 1) := by decide +kernel
theorem d3_33 : decode prog_44_method_2_code 33 = .ok (.iload 6, 2) := by decide +kernel
theorem d3_35 : decode prog_44_method_2_code 35 = .ok (.if_icmp .ge 9, 3) := by decide +kernel
theorem d3_38 : decode prog_44_method_2_code 38 = .ok (.iinc 2 1, 3) := by decide +kernel
theorem d3_41 : decode prog_44_method_2_code 41 = .ok (.goto (-17), 3) := by decide +kernel
theorem d3_44 : decode prog_44_method_2_code 44 = .ok (.iload_n 2, 1) := by decide +kernel
theorem d3_45 : decode prog_44_method_2_code 45 = .ok (.aload_n 0, 1) := by decide +kernel
theorem d3_46 : decode prog_44_method_2_code 46 = .ok (.arraylength, 1) := by decide +kernel
theorem d3_47 : decode prog_44_method_2_code 47 = .ok (.if_icmp .eq 11, 3) := by decide +kernel
theorem d3_50 : decode prog_44_method_2_code 50 = .ok (.aload_n 0, 1) := by decide +kernel
theorem d3_51 : decode prog_44_method_2_code 51 = .ok (.iload_n 2, 1) := by decide +kernel
theorem d3_52 : decode prog_44_method_2_code 52 = .ok (.iaload, 1) := by decide +kernel
theorem d3_53 : decode prog_44_method_2_code 53 = .ok (.iload 6, 2) := by decide +kernel
theorem d3_55 : decode prog_44_method_2_code 55 = .ok (.if_icmp .eq 5, 3) := by decide +kernel
theorem d3_58 : decode prog_44_method_2_code 58 = .ok (.iconst 0, 1) := by decide +kernel
theorem d3_59 : decode prog_44_method_2_code 59 = .ok (.ireturn, 1) := by decide +kernel
theorem d3_60 : decode prog_44_method_2_code 60 = .ok (.iinc 5 1, 3) := by decide +kernel
theorem d3_63 : decode prog_44_method_2_code 63 = .ok (.goto (-52), 3) := by decide +kernel
theorem d3_66 : decode prog_44_method_2_code 66 = .ok (.iconst 1, 1) := by decide +kernel
theorem d3_67 : decode prog_44_method_2_code 67 = .ok (.ireturn, 1) := by decide +kernel
set_option maxRecDepth 65536 in
set_option maxHeartbeats 40000000 in
theorem rm3 (l : Launch) (Z : State) (a0 : Array Value) (hw : ∀ d ∈ tables_1, d.before a0 Z = true) (ws : List Jvm.Cond) (a : Addr) (b : Addr) (vs : List Int32) (us : List Int32) (h0 : Heap) (n0 : Nat) (Z0 : n0 ≤ h0.size) (A_a : own_IA Z h0 a vs) (A_b : own_IA Z h0 b us)  :
    MetFree l (⟨"com/example/treebound/treebound/SortedSets", "holds", "([I[I)Z"⟩ : MethodName) (head1 (Jvm.Cond.code (⟨"com/example/treebound/treebound/SortedSets", "holds", "([I[I)Z"⟩ : MethodName) prog_44_method_2_code 7 (some .boolean) :: ws) ({ frames := 0, cells := 0, slots := 0, locals := 0 } : Room)) (fun aa U => aa = #[(.ref a), (.ref b)] ∧ Z.Warmed39 U.vm ∧ U.heap = h0) (fun _ _ _ _ _ => True) (fun _ U o U' => ∃ v L, o = .returned v ∧ Q_rm3 Z a b vs us h0 n0 v U'.heap L ∧ FrameEnd U o U' L ({ frames := 0, cells := 0, slots := 0, locals := 0 } : Room).cells ({ frames := 0, cells := 0, slots := 0, locals := 0 } : Room).slots) := by
  refine MetFree.of_bodySF (plainFor_of_name own_pn1) hisR ?_
  intro p e s m args below meth c s₁ Bd hml0 hP hK
  obtain ⟨rfl, hZ, hh⟩ := hP
  have hx := Bd.exec
  have hby := Bd.bytes
  have hml : c.maxLocals = 7 := hml0
  have hlk : meth.locks = false := BodyLoose.notSynchronized Bd
  have hown : s.vm.findClass "com/example/treebound/treebound/SortedSets" = some m.cls := findClass_of_methodNamed Bd.named
  have hnm := (name_of_methodNamed Bd.named Bd.method).1
  have X0 : Stand p l e ({ frames := 0, cells := 0, slots := 0, locals := 0 } : Room) s m #[(.ref a), (.ref b)] below meth c s₁ [] 0 0 := Stand.of_body Bd
  have e0 : s₁.heap = h0 := by rw [← hh, Bd.state]; rfl
  have N0 := Fr.nil n0
  show own_Go p e below s (Q_rm3 Z a b vs us h0 n0) 0 0 (s₁.setTop (entryFrame m #[(.ref a), (.ref b)] 7))
  refine own_go (B := s₁.setTop (mkF m 0 #[.val (.ref a), .val (.ref b), .unset, .unset, .unset, .unset, .unset] [])) (fun tgt cont => (XT.entry rfl).trans cont) ?_
  refine own_go (B := s₁.setTop (mkF m 11 #[.val (.ref a), .val (.ref b), .val (.int (0 : Int32)), .val (.ref b), .val (.int (Int32.ofNat us.length)), .val (.int (0 : Int32)), .unset] [])) (fun tgt cont => ?_) ?_
  · refine XT.iconstV X0.here hx rfl (0 : Int32) (hb hby d3_0) rfl ?_
    refine XS.istoreN X0.here hx rfl (hb hby d3_1) rfl (l' := #[.val (.ref a), .val (.ref b), .val (.int (0 : Int32)), .unset, .unset, .unset, .unset]) rfl ?_
    refine XS.aloadN X0.here hx rfl (hb hby d3_2) rfl rfl ?_
    refine XS.astoreN X0.here hx rfl (hb hby d3_3) rfl rfl (l' := #[.val (.ref a), .val (.ref b), .val (.int (0 : Int32)), .val (.ref b), .unset, .unset, .unset]) rfl ?_
    refine XS.aloadN X0.here hx rfl (hb hby d3_4) rfl rfl ?_
    refine own_lenIA X0 hx hZ e0 A_b (g := (mkF m 5 #[.val (.ref a), .val (.ref b), .val (.int (0 : Int32)), .val (.ref b), .unset, .unset, .unset] [(.ref b)])) rfl rfl (hb hby d3_5) ?_
    refine XS.istore X0.here hx rfl (hb hby d3_6) rfl (l' := #[.val (.ref a), .val (.ref b), .val (.int (0 : Int32)), .val (.ref b), .val (.int (Int32.ofNat us.length)), .unset, .unset]) rfl ?_
    refine XT.iconstV X0.here hx rfl (0 : Int32) (hb hby d3_8) rfl ?_
    refine XS.istore X0.here hx rfl (hb hby d3_9) rfl (l' := #[.val (.ref a), .val (.ref b), .val (.int (0 : Int32)), .val (.ref b), .val (.int (Int32.ofNat us.length)), .val (.int (0 : Int32)), .unset]) rfl ?_
    exact cont
  have LP : ∀ (f i k : Nat) (o6 : Slot) (T : State) (L : List Loc) (X : Stand p l e ({ frames := 0, cells := 0, slots := 0, locals := 0 } : Room) s m #[(.ref a), (.ref b)] below meth c T L 0 0) (eT : T.heap = h0) (N : Fr n0 L) (ho6 : o6 = .unset ∨ ∃ w, o6 = .val w ∧ w.category = 1) (hm : us.length - k < f) (hi : i ≤ vs.length) (hk : k ≤ us.length) (hD : own_hd us vs = own_hd (us.drop k) (vs.drop i)), own_Go p e below s (Q_rm3 Z a b vs us h0 n0) 0 0 (T.setTop (mkF m 11 #[.val (.ref a), .val (.ref b), .val (.int (Int32.ofNat i)), .val (.ref b), .val (.int (Int32.ofNat us.length)), .val (.int (Int32.ofNat k)), o6] [])) := by
    intro f
    induction f with
    | zero => intro i k o6 T L X eT N ho6 hm; omega
    | succ f ih =>
      intro i k o6 T L X eT N ho6 hm hi hk hD
      refine own_go (B := T.setTop (mkF m 15 #[.val (.ref a), .val (.ref b), .val (.int (Int32.ofNat i)), .val (.ref b), .val (.int (Int32.ofNat us.length)), .val (.int (Int32.ofNat k)), o6] [(.int (Int32.ofNat us.length)), (.int (Int32.ofNat k))])) (fun tgt cont => ?_) ?_
      · refine XS.iload X.here hx rfl (hb hby d3_11) rfl ?_
        refine XS.iload X.here hx rfl (hb hby d3_13) rfl ?_
        exact cont
      by_cases hc1 : (Int32.ofNat k) < (Int32.ofNat us.length)
      ·
        refine own_go (B := T.setTop (mkF m 24 #[.val (.ref a), .val (.ref b), .val (.int (Int32.ofNat i)), .val (.ref b), .val (.int (Int32.ofNat us.length)), .val (.int (Int32.ofNat k)), .val (.int (us.getD k 0))] [])) (fun tgt cont => ?_) ?_
        · refine XS.icmpNo X.here hx rfl (hb hby d3_15) rfl (XT.ii_ge_f hc1) ?_
          refine XS.aloadN X.here hx rfl (hb hby d3_18) rfl rfl ?_
          refine XS.iload X.here hx rfl (hb hby d3_19) rfl ?_
          refine own_ldIAn X hx hZ eT A_b (i := k) (own_ofNat_lt hc1 A_b.small hk) (g := (mkF m 21 #[.val (.ref a), .val (.ref b), .val (.int (Int32.ofNat i)), .val (.ref b), .val (.int (Int32.ofNat us.length)), .val (.int (Int32.ofNat k)), o6] [(.int (Int32.ofNat k)), (.ref b)])) rfl rfl (hb hby d3_21) ?_
          refine XS.istore X.here hx rfl (hb hby d3_22) rfl (l' := #[.val (.ref a), .val (.ref b), .val (.int (Int32.ofNat i)), .val (.ref b), .val (.int (Int32.ofNat us.length)), .val (.int (Int32.ofNat k)), .val (.int (us.getD k 0))]) (XS.store1 (o := o6) rfl ho6 rfl) ?_
          exact cont
        have hm' := hm
        have IN : ∀ (g i : Nat) (T : State) (L : List Loc) (X : Stand p l e ({ frames := 0, cells := 0, slots := 0, locals := 0 } : Room) s m #[(.ref a), (.ref b)] below meth c T L 0 0) (eT : T.heap = h0) (N : Fr n0 L) (hg : vs.length - i < g) (hi : i ≤ vs.length) (hD : own_hd us vs = own_hd (us.drop k) (vs.drop i)), own_Go p e below s (Q_rm3 Z a b vs us h0 n0) 0 0 (T.setTop (mkF m 24 #[.val (.ref a), .val (.ref b), .val (.int (Int32.ofNat i)), .val (.ref b), .val (.int (Int32.ofNat us.length)), .val (.int (Int32.ofNat k)), .val (.int (us.getD k 0))] [])) := by
          intro g
          induction g with
          | zero => intro i T L X eT N hg; omega
          | succ g ig =>
            intro i T L X eT N hg hi hD
            refine own_go (B := T.setTop (mkF m 27 #[.val (.ref a), .val (.ref b), .val (.int (Int32.ofNat i)), .val (.ref b), .val (.int (Int32.ofNat us.length)), .val (.int (Int32.ofNat k)), .val (.int (us.getD k 0))] [(.int (Int32.ofNat vs.length)), (.int (Int32.ofNat i))])) (fun tgt cont => ?_) ?_
            · refine XS.iloadN X.here hx rfl (hb hby d3_24) rfl ?_
              refine XS.aloadN X.here hx rfl (hb hby d3_25) rfl rfl ?_
              refine own_lenIA X hx hZ eT A_a (g := (mkF m 26 #[.val (.ref a), .val (.ref b), .val (.int (Int32.ofNat i)), .val (.ref b), .val (.int (Int32.ofNat us.length)), .val (.int (Int32.ofNat k)), .val (.int (us.getD k 0))] [(.ref a), (.int (Int32.ofNat i))])) rfl rfl (hb hby d3_26) ?_
              exact cont
            by_cases hc2 : (Int32.ofNat i) < (Int32.ofNat vs.length)
            ·
              refine own_go (B := T.setTop (mkF m 35 #[.val (.ref a), .val (.ref b), .val (.int (Int32.ofNat i)), .val (.ref b), .val (.int (Int32.ofNat us.length)), .val (.int (Int32.ofNat k)), .val (.int (us.getD k 0))] [(.int (us.getD k 0)), (.int (vs.getD i 0))])) (fun tgt cont => ?_) ?_
              · refine XS.icmpNo X.here hx rfl (hb hby d3_27) rfl (XT.ii_ge_f hc2) ?_
                refine XS.aloadN X.here hx rfl (hb hby d3_30) rfl rfl ?_
                refine XS.iloadN X.here hx rfl (hb hby d3_31) rfl ?_
                refine own_ldIAn X hx hZ eT A_a (i := i) (own_ofNat_lt hc2 A_a.small hi) (g := (mkF m 32 #[.val (.ref a), .val (.ref b), .val (.int (Int32.ofNat i)), .val (.ref b), .val (.int (Int32.ofNat us.length)), .val (.int (Int32.ofNat k)), .val (.int (us.getD k 0))] [(.int (Int32.ofNat i)), (.ref a)])) rfl rfl (hb hby d3_32) ?_
                refine XS.iload X.here hx rfl (hb hby d3_33) rfl ?_
                exact cont
              by_cases hc3 : (vs.getD i 0) < (us.getD k 0)
              ·
                refine own_go (B := T.setTop (mkF m 24 #[.val (.ref a), .val (.ref b), .val (.int ((Int32.ofNat i) + (1 : Int32))), .val (.ref b), .val (.int (Int32.ofNat us.length)), .val (.int (Int32.ofNat k)), .val (.int (us.getD k 0))] [])) (fun tgt cont => ?_) ?_
                · refine XS.icmpNo X.here hx rfl (hb hby d3_35) rfl (XT.ii_ge_f hc3) ?_
                  refine XT.iincV X.here hx rfl (1 : Int32) (hb hby d3_38) rfl rfl (l' := #[.val (.ref a), .val (.ref b), .val (.int ((Int32.ofNat i) + (1 : Int32))), .val (.ref b), .val (.int (Int32.ofNat us.length)), .val (.int (Int32.ofNat k)), .val (.int (us.getD k 0))]) rfl ?_
                  refine XS.goto X.here hx rfl (pc0 := 41) (pc' := 24) rfl (hb hby d3_41) (by decide) (by decide) ?_
                  exact cont
                rw [own_one]
                have qk := own_ofNat_lt hc1 A_b.small hk
                have qi := own_ofNat_lt hc2 A_a.small hi
                rw [own_drop us qk, own_drop vs qi, own_hd_lt hc3, ← own_drop us qk] at hD
                exact ig (i + 1) _ _ X eT N (by omega) (by omega) hD
              ·
                refine own_go (B := T.setTop (mkF m 55 #[.val (.ref a), .val (.ref b), .val (.int (Int32.ofNat i)), .val (.ref b), .val (.int (Int32.ofNat us.length)), .val (.int (Int32.ofNat k)), .val (.int (us.getD k 0))] [(.int (us.getD k 0)), (.int (vs.getD i 0))])) (fun tgt cont => ?_) ?_
                · refine XS.icmpYes X.here hx rfl (pc0 := 35) (pc' := 44) rfl (hb hby d3_35) rfl (XT.ii_ge_t hc3) (by decide) (by decide) ?_
                  refine XS.iloadN X.here hx rfl (hb hby d3_44) rfl ?_
                  refine XS.aloadN X.here hx rfl (hb hby d3_45) rfl rfl ?_
                  refine own_lenIA X hx hZ eT A_a (g := (mkF m 46 #[.val (.ref a), .val (.ref b), .val (.int (Int32.ofNat i)), .val (.ref b), .val (.int (Int32.ofNat us.length)), .val (.int (Int32.ofNat k)), .val (.int (us.getD k 0))] [(.ref a), (.int (Int32.ofNat i))])) rfl rfl (hb hby d3_46) ?_
                  refine XS.icmpNo X.here hx rfl (hb hby d3_47) rfl (XT.ii_eq_f (fun q => absurd (own_ofNat_inj q A_a.small hi) (Nat.ne_of_lt (own_ofNat_lt hc2 A_a.small hi)))) ?_
                  refine XS.aloadN X.here hx rfl (hb hby d3_50) rfl rfl ?_
                  refine XS.iloadN X.here hx rfl (hb hby d3_51) rfl ?_
                  refine own_ldIAn X hx hZ eT A_a (i := i) (own_ofNat_lt hc2 A_a.small hi) (g := (mkF m 52 #[.val (.ref a), .val (.ref b), .val (.int (Int32.ofNat i)), .val (.ref b), .val (.int (Int32.ofNat us.length)), .val (.int (Int32.ofNat k)), .val (.int (us.getD k 0))] [(.int (Int32.ofNat i)), (.ref a)])) rfl rfl (hb hby d3_52) ?_
                  refine XS.iload X.here hx rfl (hb hby d3_53) rfl ?_
                  exact cont
                by_cases hc4 : (vs.getD i 0) = (us.getD k 0)
                ·
                  refine own_go (B := T.setTop (mkF m 11 #[.val (.ref a), .val (.ref b), .val (.int (Int32.ofNat i)), .val (.ref b), .val (.int (Int32.ofNat us.length)), .val (.int ((Int32.ofNat k) + (1 : Int32))), .val (.int (us.getD k 0))] [])) (fun tgt cont => ?_) ?_
                  · refine XS.icmpYes X.here hx rfl (pc0 := 55) (pc' := 60) rfl (hb hby d3_55) rfl (XT.ii_eq_t hc4) (by decide) (by decide) ?_
                    refine XT.iincV X.here hx rfl (1 : Int32) (hb hby d3_60) rfl rfl (l' := #[.val (.ref a), .val (.ref b), .val (.int (Int32.ofNat i)), .val (.ref b), .val (.int (Int32.ofNat us.length)), .val (.int ((Int32.ofNat k) + (1 : Int32))), .val (.int (us.getD k 0))]) rfl ?_
                    refine XS.goto X.here hx rfl (pc0 := 63) (pc' := 11) rfl (hb hby d3_63) (by decide) (by decide) ?_
                    exact cont
                  rw [own_one]
                  have qk := own_ofNat_lt hc1 A_b.small hk
                  have qi := own_ofNat_lt hc2 A_a.small hi
                  rw [own_drop us qk, own_drop vs qi, own_hd_ge hc3, if_pos hc4, ← own_drop vs qi] at hD
                  exact ih i (k + 1) _ _ _ X eT N (Or.inr ⟨_, rfl, rfl⟩) (by omega) hi (by omega) hD
                ·
                  refine own_go (B := T.setTop (mkF m 59 #[.val (.ref a), .val (.ref b), .val (.int (Int32.ofNat i)), .val (.ref b), .val (.int (Int32.ofNat us.length)), .val (.int (Int32.ofNat k)), .val (.int (us.getD k 0))] [(.int (0 : Int32))])) (fun tgt cont => ?_) ?_
                  · refine XS.icmpNo X.here hx rfl (hb hby d3_55) rfl (XT.ii_eq_f hc4) ?_
                    refine XT.iconstV X.here hx rfl (0 : Int32) (hb hby d3_58) rfl ?_
                    exact cont
                  refine own_end X (v := some (.int (0 : Int32))) (fun h => by rw [Bd.returns] at h; cases h) hlk ?_ (by decide) (by decide) (fun fs hl => retN X hx (t := .boolean) Bd.returns (by simp) (hb hby d3_59) hl)
                  refine ⟨?_, N, eT⟩
                  show (some (.int (0 : Int32)) : Option Value) = some (.int (own_hd us vs))
                  rw [hD]
                  rw [own_drop us (own_ofNat_lt hc1 A_b.small hk), own_drop vs (own_ofNat_lt hc2 A_a.small hi), own_hd_ge hc3, if_neg hc4]
            ·
              refine own_go (B := T.setTop (mkF m 59 #[.val (.ref a), .val (.ref b), .val (.int (Int32.ofNat i)), .val (.ref b), .val (.int (Int32.ofNat us.length)), .val (.int (Int32.ofNat k)), .val (.int (us.getD k 0))] [(.int (0 : Int32))])) (fun tgt cont => ?_) ?_
              · refine XS.icmpYes X.here hx rfl (pc0 := 27) (pc' := 44) rfl (hb hby d3_27) rfl (XT.ii_ge_t hc2) (by decide) (by decide) ?_
                refine XS.iloadN X.here hx rfl (hb hby d3_44) rfl ?_
                refine XS.aloadN X.here hx rfl (hb hby d3_45) rfl rfl ?_
                refine own_lenIA X hx hZ eT A_a (g := (mkF m 46 #[.val (.ref a), .val (.ref b), .val (.int (Int32.ofNat i)), .val (.ref b), .val (.int (Int32.ofNat us.length)), .val (.int (Int32.ofNat k)), .val (.int (us.getD k 0))] [(.ref a), (.int (Int32.ofNat i))])) rfl rfl (hb hby d3_46) ?_
                refine XS.icmpYes X.here hx rfl (pc0 := 47) (pc' := 58) rfl (hb hby d3_47) rfl (XT.ii_eq_t (congrArg Int32.ofNat (Nat.le_antisymm hi (own_ofNat_nlt hc2 A_a.small hi)))) (by decide) (by decide) ?_
                refine XT.iconstV X.here hx rfl (0 : Int32) (hb hby d3_58) rfl ?_
                exact cont
              refine own_end X (v := some (.int (0 : Int32))) (fun h => by rw [Bd.returns] at h; cases h) hlk ?_ (by decide) (by decide) (fun fs hl => retN X hx (t := .boolean) Bd.returns (by simp) (hb hby d3_59) hl)
              refine ⟨?_, N, eT⟩
              show (some (.int (0 : Int32)) : Option Value) = some (.int (own_hd us vs))
              rw [hD]
              rw [own_drop us (own_ofNat_lt hc1 A_b.small hk), List.drop_eq_nil_of_le (own_ofNat_nlt hc2 A_a.small hi)]; rfl
        exact IN _ i _ _ X eT N (Nat.lt_succ_self _) hi hD
      ·
        refine own_go (B := T.setTop (mkF m 67 #[.val (.ref a), .val (.ref b), .val (.int (Int32.ofNat i)), .val (.ref b), .val (.int (Int32.ofNat us.length)), .val (.int (Int32.ofNat k)), o6] [(.int (1 : Int32))])) (fun tgt cont => ?_) ?_
        · refine XS.icmpYes X.here hx rfl (pc0 := 15) (pc' := 66) rfl (hb hby d3_15) rfl (XT.ii_ge_t hc1) (by decide) (by decide) ?_
          refine XT.iconstV X.here hx rfl (1 : Int32) (hb hby d3_66) rfl ?_
          exact cont
        refine own_end X (v := some (.int (1 : Int32))) (fun h => by rw [Bd.returns] at h; cases h) hlk ?_ (by decide) (by decide) (fun fs hl => retN X hx (t := .boolean) Bd.returns (by simp) (hb hby d3_67) hl)
        refine ⟨?_, N, eT⟩
        show (some (.int (1 : Int32)) : Option Value) = some (.int (own_hd us vs))
        rw [hD]
        rw [List.drop_eq_nil_of_le (own_ofNat_nlt hc1 A_b.small hk)]; rfl
  exact LP _ 0 0 _ _ _ X0 e0 N0 (Or.inl rfl) (Nat.lt_succ_self _) (Nat.zero_le _) (Nat.zero_le _) rfl
def own_asc (l : List Int32) : Prop := l.Pairwise (fun x y => x.toInt < y.toInt)
theorem own_dw (p : Int32) : ∀ set : List Int32, own_asc set → ∀ x, x ∈ set.dropWhile (fun x => decide (x < p)) ↔ x ∈ set ∧ ¬ x < p := by
  intro set
  induction set with
  | nil => intro _ x; simp
  | cons y ys ih =>
    intro h x
    have h' := List.pairwise_cons.mp h
    by_cases c : y < p
    · rw [List.dropWhile_cons_of_pos (by simpa using c), ih h'.2 x, List.mem_cons]
      constructor
      · rintro ⟨q, r⟩; exact ⟨Or.inr q, r⟩
      · rintro ⟨q | q, r⟩
        · subst q; exact absurd c r
        · exact ⟨q, r⟩
    · rw [List.dropWhile_cons_of_neg (by simpa using c)]
      constructor
      · intro q
        refine ⟨q, ?_⟩
        rcases List.mem_cons.mp q with q | q
        · subst q; exact c
        · have := h'.1 x q
          rw [Int32.lt_iff_toInt_lt] at c ⊢
          omega
      · exact fun q => q.1
theorem own_hd_spec : ∀ (sub set : List Int32), own_asc sub → own_asc set → ((∀ x, x ∈ sub → x ∈ set) ∧ own_hd sub set = 1) ∨ ((¬ ∀ x, x ∈ sub → x ∈ set) ∧ own_hd sub set = 0) := by
  intro sub
  induction sub with
  | nil => intro set _ _; exact Or.inl ⟨(fun x q => nomatch q), rfl⟩
  | cons p ps ih =>
    intro set hs ht
    have hs' := List.pairwise_cons.mp hs
    have hd := own_dw p set ht
    have ha : own_asc (set.dropWhile (fun x => decide (x < p))) := List.Pairwise.sublist (List.dropWhile_suffix _).sublist ht
    rw [own_hd]
    generalize set.dropWhile (fun x => decide (x < p)) = D at *
    cases D with
    | nil =>
      refine Or.inr ⟨fun q => ?_, rfl⟩
      have := (hd p).mpr ⟨q p List.mem_cons_self, by rw [Int32.lt_iff_toInt_lt]; omega⟩
      cases this
    | cons x xs =>
      have ha' := List.pairwise_cons.mp ha
      show ((∀ x, x ∈ p :: ps → x ∈ set) ∧ (if x = p then own_hd ps (x :: xs) else 0) = 1) ∨ ((¬ ∀ x, x ∈ p :: ps → x ∈ set) ∧ (if x = p then own_hd ps (x :: xs) else 0) = 0)
      by_cases e : x = p
      · rw [if_pos e]
        have eq : (∀ y, y ∈ p :: ps → y ∈ set) ↔ ∀ y, y ∈ ps → y ∈ x :: xs := by
          constructor
          · intro q y hy
            refine (hd y).mpr ⟨q y (List.mem_cons_of_mem _ hy), ?_⟩
            have := hs'.1 y hy
            rw [Int32.lt_iff_toInt_lt]; omega
          · intro q y hy
            rcases List.mem_cons.mp hy with r | r
            · subst r; exact ((hd y).mp (e ▸ List.mem_cons_self)).1
            · exact ((hd y).mp (q y r)).1
        rw [eq]
        exact ih (x :: xs) hs'.2 ha
      · rw [if_neg e]
        refine Or.inr ⟨fun q => ?_, rfl⟩
        have m := (hd p).mpr ⟨q p List.mem_cons_self, by rw [Int32.lt_iff_toInt_lt]; omega⟩
        rcases List.mem_cons.mp m with r | r
        · exact e r.symm
        · have h1 := ha'.1 p r
          have h2 := ((hd x).mp List.mem_cons_self).2
          rw [Int32.lt_iff_toInt_lt] at h2
          omega
theorem own_part (P : Prop) [Decidable P] (w : Int32) : List.Sublist (if P then [] else [w]) [w] := by split <;> simp
theorem own_pick_asc (m w0 w1 w2 w3 w4 : Int32) (h : own_asc [w0, w1, w2, w3, w4]) : own_asc (own_pick m w0 w1 w2 w3 w4) := by
  refine List.Pairwise.sublist ?_ h
  unfold own_pick
  exact ((((own_part _ w0).append (own_part _ w1)).append (own_part _ w2)).append (own_part _ w3)).append (own_part _ w4)
theorem own_pm (P : Prop) [Decidable P] (x w : Int32) : x ∈ (if P then [] else [w]) ↔ ¬ P ∧ x = w := by split <;> simp_all
theorem own_pick_mem (m w0 w1 w2 w3 w4 x : Int32) : x ∈ own_pick m w0 w1 w2 w3 w4 ↔ (¬ (m &&& (1 : Int32)) = 0 ∧ x = w0) ∨ (¬ (m &&& (2 : Int32)) = 0 ∧ x = w1) ∨ (¬ (m &&& (4 : Int32)) = 0 ∧ x = w2) ∨ (¬ (m &&& (8 : Int32)) = 0 ∧ x = w3) ∨ (¬ (m &&& (16 : Int32)) = 0 ∧ x = w4) := by
  unfold own_pick
  simp only [List.mem_append, own_pm, or_assoc]
theorem own_masks : ∀ a b : Fin 32, ((Int32.ofNat a.1) &&& ((Int32.ofNat b.1) ^^^ (-1 : Int32))) = 0 ↔ ((¬ ((Int32.ofNat a.1) &&& (1 : Int32)) = 0 → ¬ ((Int32.ofNat b.1) &&& (1 : Int32)) = 0) ∧ (¬ ((Int32.ofNat a.1) &&& (2 : Int32)) = 0 → ¬ ((Int32.ofNat b.1) &&& (2 : Int32)) = 0) ∧ (¬ ((Int32.ofNat a.1) &&& (4 : Int32)) = 0 → ¬ ((Int32.ofNat b.1) &&& (4 : Int32)) = 0) ∧ (¬ ((Int32.ofNat a.1) &&& (8 : Int32)) = 0 → ¬ ((Int32.ofNat b.1) &&& (8 : Int32)) = 0) ∧ (¬ ((Int32.ofNat a.1) &&& (16 : Int32)) = 0 → ¬ ((Int32.ofNat b.1) &&& (16 : Int32)) = 0)) := by decide +kernel
theorem own_and5 (x : Int32) : ∃ j : Fin 32, (x &&& (31 : Int32)) = Int32.ofNat j.1 := by
  have h := c_mask x 31 5 (by decide) (by decide)
  have h1 := Int.emod_nonneg x.toInt (b := 32) (by omega)
  have h2 := Int.emod_lt_of_pos x.toInt (b := 32) (by omega)
  obtain ⟨n, hn⟩ := Int.eq_ofNat_of_zero_le (a := (x &&& (31 : Int32)).toInt) (by rw [h]; exact h1)
  have h4 : n < 32 := by
    have : ((2 ^ 5 : Nat) : Int) = 32 := rfl
    rw [this] at h
    omega
  refine ⟨⟨n, h4⟩, ?_⟩
  apply Int32.toInt_inj.mp
  rw [Int32.toInt_ofNat_of_lt (by omega)]
  exact hn
theorem own_fin (p3 p4 w0 w1 w2 w3 w4 : Int32) (h : own_asc [w0, w1, w2, w3, w4]) : own_hd (own_pick (p4 &&& (31 : Int32)) w0 w1 w2 w3 w4) (own_pick (p3 &&& (31 : Int32)) w0 w1 w2 w3 w4) = (if ((p4 &&& (31 : Int32)) &&& ((p3 &&& (31 : Int32)) ^^^ (-1 : Int32))) = 0 then (1 : Int32) else (0 : Int32)) := by
  obtain ⟨a, ha⟩ := own_and5 p4
  obtain ⟨b, hb⟩ := own_and5 p3
  rw [ha, hb]
  have s := own_hd_spec _ _ (own_pick_asc (Int32.ofNat a.1) w0 w1 w2 w3 w4 h) (own_pick_asc (Int32.ofNat b.1) w0 w1 w2 w3 w4 h)
  have m := own_masks a b
  generalize Int32.ofNat a.1 = A at *
  generalize Int32.ofNat b.1 = B at *
  have ne : ∀ {x y : Int32}, x.toInt < y.toInt → x ≠ y := fun q r => by rw [r] at q; omega
  have h0 := List.pairwise_cons.mp h
  have h1 := List.pairwise_cons.mp h0.2
  have h2 := List.pairwise_cons.mp h1.2
  have h3 := List.pairwise_cons.mp h2.2
  have n01 : w0 ≠ w1 := ne (h0.1 w1 (by simp))
  have n02 : w0 ≠ w2 := ne (h0.1 w2 (by simp))
  have n03 : w0 ≠ w3 := ne (h0.1 w3 (by simp))
  have n04 : w0 ≠ w4 := ne (h0.1 w4 (by simp))
  have n12 : w1 ≠ w2 := ne (h1.1 w2 (by simp))
  have n13 : w1 ≠ w3 := ne (h1.1 w3 (by simp))
  have n14 : w1 ≠ w4 := ne (h1.1 w4 (by simp))
  have n23 : w2 ≠ w3 := ne (h2.1 w3 (by simp))
  have n24 : w2 ≠ w4 := ne (h2.1 w4 (by simp))
  have n34 : w3 ≠ w4 := ne (h3.1 w4 (by simp))
  have k0 : w0 ∈ own_pick B w0 w1 w2 w3 w4 ↔ ¬ (B &&& (1 : Int32)) = 0 := by rw [own_pick_mem]; simp [n01, n02, n03, n04]
  have k1 : w1 ∈ own_pick B w0 w1 w2 w3 w4 ↔ ¬ (B &&& (2 : Int32)) = 0 := by rw [own_pick_mem]; simp [n01.symm, n12, n13, n14]
  have k2 : w2 ∈ own_pick B w0 w1 w2 w3 w4 ↔ ¬ (B &&& (4 : Int32)) = 0 := by rw [own_pick_mem]; simp [n02.symm, n12.symm, n23, n24]
  have k3 : w3 ∈ own_pick B w0 w1 w2 w3 w4 ↔ ¬ (B &&& (8 : Int32)) = 0 := by rw [own_pick_mem]; simp [n03.symm, n13.symm, n23.symm, n34]
  have k4 : w4 ∈ own_pick B w0 w1 w2 w3 w4 ↔ ¬ (B &&& (16 : Int32)) = 0 := by rw [own_pick_mem]; simp [n04.symm, n14.symm, n24.symm, n34.symm]
  have e : (∀ x, x ∈ own_pick A w0 w1 w2 w3 w4 → x ∈ own_pick B w0 w1 w2 w3 w4) ↔ (A &&& (B ^^^ (-1 : Int32))) = 0 := by
    rw [m, ← k0, ← k1, ← k2, ← k3, ← k4]
    constructor
    · intro q
      exact ⟨fun r => q w0 ((own_pick_mem ..).mpr (Or.inl ⟨r, rfl⟩)), fun r => q w1 ((own_pick_mem ..).mpr (Or.inr (Or.inl ⟨r, rfl⟩))), fun r => q w2 ((own_pick_mem ..).mpr (Or.inr (Or.inr (Or.inl ⟨r, rfl⟩)))), fun r => q w3 ((own_pick_mem ..).mpr (Or.inr (Or.inr (Or.inr (Or.inl ⟨r, rfl⟩))))), fun r => q w4 ((own_pick_mem ..).mpr (Or.inr (Or.inr (Or.inr (Or.inr ⟨r, rfl⟩)))))⟩
    · rintro ⟨q0, q1, q2, q3, q4⟩ x hx
      rcases (own_pick_mem ..).mp hx with ⟨r, rfl⟩ | ⟨r, rfl⟩ | ⟨r, rfl⟩ | ⟨r, rfl⟩ | ⟨r, rfl⟩
      · exact q0 r
      · exact q1 r
      · exact q2 r
      · exact q3 r
      · exact q4 r
  rw [e] at s
  rcases s with ⟨q, r⟩ | ⟨q, r⟩
  · rw [r, if_pos q]
  · rw [r, if_neg q]
theorem own_255 (x : Int32) : 0 ≤ ((x &&& (255 : Int32)).toInt64).toInt ∧ ((x &&& (255 : Int32)).toInt64).toInt ≤ 255 := by
  have h := c_mask x 255 8 (by decide) (by decide)
  rw [c_i2l]
  generalize (x &&& 255).toInt = y at *
  omega
theorem own_addX (x y : Int64) (h : -4000000000 ≤ x.toInt) (h2 : x.toInt ≤ 4000000000) (k : -4000000000 ≤ y.toInt) (k2 : y.toInt ≤ 4000000000) : (x + y).toInt = x.toInt + y.toInt := by
  have a := c_ladd x y
  have r := rng64 (x + y)
  generalize x + y = z at *
  omega
theorem own_l2i (x : Int64) (h : -2147483648 ≤ x.toInt) (h2 : x.toInt ≤ 2147483647) : x.toInt32.toInt = x.toInt := by
  have a := c_l2i x
  have r := rng32 x.toInt32
  generalize x.toInt32 = z at *
  omega
theorem own_s1 (b c v1 : Int64) (hb : -2147483648 ≤ b.toInt ∧ b.toInt ≤ 2147483648) (hc : 0 ≤ c.toInt ∧ c.toInt ≤ 4) (h1 : 0 ≤ v1.toInt ∧ v1.toInt ≤ 255) : ((b + c) + v1).toInt = b.toInt + c.toInt + v1.toInt := by
  have t1 := own_addX b c (by omega) (by omega) (by omega) (by omega)
  rw [own_addX (b + c) v1 (by omega) (by omega) (by omega) (by omega), t1]
theorem own_s2 (b c v1 v2 : Int64) (hb : -2147483648 ≤ b.toInt ∧ b.toInt ≤ 2147483648) (hc : 0 ≤ c.toInt ∧ c.toInt ≤ 4) (h1 : 0 ≤ v1.toInt ∧ v1.toInt ≤ 255) (h2 : 0 ≤ v2.toInt ∧ v2.toInt ≤ 255) : (((b + c) + v1) + v2).toInt = b.toInt + c.toInt + v1.toInt + v2.toInt := by
  have t1 := own_s1 b c v1 hb hc h1
  rw [own_addX (b + c + v1) v2 (by omega) (by omega) (by omega) (by omega), t1]
theorem own_s3 (b c v1 v2 v3 : Int64) (hb : -2147483648 ≤ b.toInt ∧ b.toInt ≤ 2147483648) (hc : 0 ≤ c.toInt ∧ c.toInt ≤ 4) (h1 : 0 ≤ v1.toInt ∧ v1.toInt ≤ 255) (h2 : 0 ≤ v2.toInt ∧ v2.toInt ≤ 255) (h3 : 0 ≤ v3.toInt ∧ v3.toInt ≤ 255) : ((((b + c) + v1) + v2) + v3).toInt = b.toInt + c.toInt + v1.toInt + v2.toInt + v3.toInt := by
  have t1 := own_s2 b c v1 v2 hb hc h1 h2
  rw [own_addX (b + c + v1 + v2) v3 (by omega) (by omega) (by omega) (by omega), t1]
theorem own_s4 (b c v1 v2 v3 v4 : Int64) (hb : -2147483648 ≤ b.toInt ∧ b.toInt ≤ 2147483648) (hc : 0 ≤ c.toInt ∧ c.toInt ≤ 4) (h1 : 0 ≤ v1.toInt ∧ v1.toInt ≤ 255) (h2 : 0 ≤ v2.toInt ∧ v2.toInt ≤ 255) (h3 : 0 ≤ v3.toInt ∧ v3.toInt ≤ 255) (h4 : 0 ≤ v4.toInt ∧ v4.toInt ≤ 255) : (((((b + c) + v1) + v2) + v3) + v4).toInt = b.toInt + c.toInt + v1.toInt + v2.toInt + v3.toInt + v4.toInt := by
  have t1 := own_s3 b c v1 v2 v3 hb hc h1 h2 h3
  rw [own_addX (b + c + v1 + v2 + v3) v4 (by omega) (by omega) (by omega) (by omega), t1]
theorem own_z4 (v1 v2 v3 v4 : Int64) (h1 : 0 ≤ v1.toInt ∧ v1.toInt ≤ 255) (h2 : 0 ≤ v2.toInt ∧ v2.toInt ≤ 255) (h3 : 0 ≤ v3.toInt ∧ v3.toInt ≤ 255) (h4 : 0 ≤ v4.toInt ∧ v4.toInt ≤ 255) : (((((4 : Int64) + v1) + v2) + v3) + v4).toInt = 4 + v1.toInt + v2.toInt + v3.toInt + v4.toInt := by
  have q := own_s4 0 4 v1 v2 v3 v4 (by decide) (by decide) h1 h2 h3 h4
  have e : (0 : Int64) + 4 = 4 := rfl
  have e0 : (0 : Int64).toInt = 0 := rfl
  have e4 : (4 : Int64).toInt = 4 := rfl
  rw [e, e0, e4] at q
  rw [q]; omega
theorem own_bb (p1 : Int32) (S : Int64) (hS : 4 ≤ S.toInt ∧ S.toInt ≤ 1024) : (own_min (p1.toInt64) ((2147483647 : Int64) - S)).toInt ≤ 2147483647 - S.toInt ∧ -2147483648 ≤ (own_min (p1.toInt64) ((2147483647 : Int64) - S)).toInt := by
  have eM : (2147483647 : Int64).toInt = 2147483647 := rfl
  have d := c_lsub 2147483647 S
  have rd := rng64 ((2147483647 : Int64) - S)
  rw [eM] at d
  generalize (2147483647 : Int64) - S = D at *
  have cp := c_i2l p1
  have rp := rng32 p1
  unfold own_min
  split
  · omega
  · rename_i q; rw [Int64.lt_iff_toInt_lt] at q; omega
theorem own_ws (p1 : Int32) (v1 v2 v3 v4 : Int64) (h1 : 0 ≤ v1.toInt ∧ v1.toInt ≤ 255) (h2 : 0 ≤ v2.toInt ∧ v2.toInt ≤ 255) (h3 : 0 ≤ v3.toInt ∧ v3.toInt ≤ 255) (h4 : 0 ≤ v4.toInt ∧ v4.toInt ≤ 255) :
    ∀ b : Int64, b = own_min (p1.toInt64) ((2147483647 : Int64) - ((((((4 : Int64) + v1) + v2) + v3) + v4))) →
    own_asc [b.toInt32, ((b + 1) + v1).toInt32, (((b + 2) + v1) + v2).toInt32, ((((b + 3) + v1) + v2) + v3).toInt32, (((((b + 4) + v1) + v2) + v3) + v4).toInt32] := by
  intro b hb
  have e1 : (1 : Int64).toInt = 1 := rfl
  have e2 : (2 : Int64).toInt = 2 := rfl
  have e3 : (3 : Int64).toInt = 3 := rfl
  have e4 : (4 : Int64).toInt = 4 := rfl
  have sS := own_z4 v1 v2 v3 v4 h1 h2 h3 h4
  have bb := own_bb p1 (4 + v1 + v2 + v3 + v4) (by omega)
  rw [← hb] at bb
  clear hb
  generalize (4 : Int64) + v1 + v2 + v3 + v4 = S at *
  have hbb : -2147483648 ≤ b.toInt ∧ b.toInt ≤ 2147483648 := by omega
  have t1 := own_s1 b 1 v1 hbb (by decide) h1
  have t2 := own_s2 b 2 v1 v2 hbb (by decide) h1 h2
  have t3 := own_s3 b 3 v1 v2 v3 hbb (by decide) h1 h2 h3
  have t4 := own_s4 b 4 v1 v2 v3 v4 hbb (by decide) h1 h2 h3 h4
  generalize (b + 1 + v1) = y1 at *
  generalize (b + 2 + v1 + v2) = y2 at *
  generalize (b + 3 + v1 + v2 + v3) = y3 at *
  generalize (b + 4 + v1 + v2 + v3 + v4) = y4 at *
  have a0 := own_l2i b (by omega) (by omega)
  have a1 := own_l2i y1 (by omega) (by omega)
  have a2 := own_l2i y2 (by omega) (by omega)
  have a3 := own_l2i y3 (by omega) (by omega)
  have a4 := own_l2i y4 (by omega) (by omega)
  generalize b.toInt32 = z0 at *
  generalize y1.toInt32 = z1 at *
  generalize y2.toInt32 = z2 at *
  generalize y3.toInt32 = z3 at *
  generalize y4.toInt32 = z4 at *
  unfold own_asc
  simp only [List.pairwise_cons, List.mem_cons, List.not_mem_nil, or_false, forall_eq_or_imp, forall_eq, false_imp_iff, implies_true, List.Pairwise.nil, and_true]
  omega

def Q0 (n0 : Nat) (v : Option Value) (h : Heap) (L : List Loc) : Prop := v = some (.int (1 : Int32)) ∧ Fr n0 L
theorem own_pd0 : parseMethodDescriptor "(JJ)J" = some ⟨[.long, .long], some .long⟩ := by decide +kernel
theorem own_pd1 : parseMethodDescriptor "([II)[I" = some ⟨[(.array .int), .int], some (.array .int)⟩ := by decide +kernel
theorem own_pd2 : parseMethodDescriptor "([I[I)Z" = some ⟨[(.array .int), (.array .int)], some .boolean⟩ := by decide +kernel
theorem own_eq0 (p2 : Int32)  : 0 ≤ (((p2 &&& (255 : Int32)).toInt64)).toInt ∧ (((p2 &&& (255 : Int32)).toInt64)).toInt ≤ 255 := by
  exact own_255 _
theorem own_eq1 (p2 : Int32)  : 0 ≤ (((((p2.toUInt32 >>> ((8 : Int32) &&& 31).toUInt32).toInt32) &&& (255 : Int32)).toInt64)).toInt ∧ (((((p2.toUInt32 >>> ((8 : Int32) &&& 31).toUInt32).toInt32) &&& (255 : Int32)).toInt64)).toInt ≤ 255 := by
  exact own_255 _
theorem own_eq2 (p2 : Int32)  : 0 ≤ (((((p2.toUInt32 >>> ((16 : Int32) &&& 31).toUInt32).toInt32) &&& (255 : Int32)).toInt64)).toInt ∧ (((((p2.toUInt32 >>> ((16 : Int32) &&& 31).toUInt32).toInt32) &&& (255 : Int32)).toInt64)).toInt ≤ 255 := by
  exact own_255 _
theorem own_eq3 (p2 : Int32)  : 0 ≤ (((((p2.toUInt32 >>> ((24 : Int32) &&& 31).toUInt32).toInt32) &&& (255 : Int32)).toInt64)).toInt ∧ (((((p2.toUInt32 >>> ((24 : Int32) &&& 31).toUInt32).toInt32) &&& (255 : Int32)).toInt64)).toInt ≤ 255 := by
  exact own_255 _
theorem own_eq4 (p1 : Int32) (v1 : Int64) (v2 : Int64) (v3 : Int64) (v4 : Int64) (hp0 : 0 ≤ v1.toInt ∧ v1.toInt ≤ 255) (hp1 : 0 ≤ v2.toInt ∧ v2.toInt ≤ 255) (hp2 : 0 ≤ v3.toInt ∧ v3.toInt ≤ 255) (hp3 : 0 ≤ v4.toInt ∧ v4.toInt ≤ 255) : own_asc [((((own_min (p1.toInt64) ((2147483647 : Int64) - ((((((4 : Int64) + v1) + v2) + v3) + v4))))).toInt32)), ((((((own_min (p1.toInt64) ((2147483647 : Int64) - ((((((4 : Int64) + v1) + v2) + v3) + v4))))) + (1 : Int64)) + v1).toInt32)), (((((((own_min (p1.toInt64) ((2147483647 : Int64) - ((((((4 : Int64) + v1) + v2) + v3) + v4))))) + (2 : Int64)) + v1) + v2).toInt32)), ((((((((own_min (p1.toInt64) ((2147483647 : Int64) - ((((((4 : Int64) + v1) + v2) + v3) + v4))))) + (3 : Int64)) + v1) + v2) + v3).toInt32)), (((((((((own_min (p1.toInt64) ((2147483647 : Int64) - ((((((4 : Int64) + v1) + v2) + v3) + v4))))) + (4 : Int64)) + v1) + v2) + v3) + v4).toInt32))] := by
  exact own_ws p1 v1 v2 v3 v4 hp0 hp1 hp2 hp3 _ rfl
theorem own_eq5 (p4 : Int32) (v9 : Int32) (v11 : Int32) (v13 : Int32) (v15 : Int32) (v17 : Int32) (p3 : Int32) (hp0 : own_asc [v9, v11, v13, v15, v17]) : ((own_hd ((own_pick ((p4 &&& (31 : Int32))) v9 v11 v13 v15 v17)) ((own_pick ((p3 &&& (31 : Int32))) v9 v11 v13 v15 v17)))) = ((if (((p4 &&& (31 : Int32))) &&& (((p3 &&& (31 : Int32))) ^^^ (-1 : Int32))) = 0 then (1 : Int32) else (0 : Int32))) := by
  exact own_fin _ _ _ _ _ _ _ hp0
set_option maxRecDepth 65536 in
set_option maxHeartbeats 40000000 in
theorem rm0 (l : Launch) (Z : State) (a0 : Array Value) (hw : ∀ d ∈ tables_1, d.before a0 Z = true) (ws : List Jvm.Cond) (p1 : Int32) (p2 : Int32) (p3 : Int32) (p4 : Int32) (h0 : Heap) (n0 : Nat) (Z0 : n0 ≤ h0.size)  :
    MetFree l x (head1 (Jvm.Cond.code x code maxLocals ret :: ws) room_1) (fun aa U => aa = #[(.int p1), (.int p2), (.int p3), (.int p4)] ∧ Z.Warmed39 U.vm ∧ U.heap = h0) (fun _ _ _ _ _ => True) (fun _ U o U' => ∃ v L, o = .returned v ∧ Q0 n0 v U'.heap L ∧ FrameEnd U o U' L room_1.cells room_1.slots) := by
  refine MetFree.of_bodySF (plainFor_of_name own_pn0) hisR ?_
  intro p e s m args below meth c s₁ Bd hml0 hP hK
  obtain ⟨rfl, hZ, hh⟩ := hP
  have hx := Bd.exec
  have hby := Bd.bytes
  have hml : c.maxLocals = 22 := hml0
  have hlk : meth.locks = false := BodyLoose.notSynchronized Bd
  have hown : s.vm.findClass "com/example/treebound/treebound/SortedSetsHoldsPinLaw" = some m.cls := findClass_of_methodNamed Bd.named
  have hnm := (name_of_methodNamed Bd.named Bd.method).1
  have X0 : Stand p l e room_1 s m #[(.int p1), (.int p2), (.int p3), (.int p4)] below meth c s₁ [] 0 0 := Stand.of_body Bd
  have e0 : s₁.heap = h0 := by rw [← hh, Bd.state]; rfl
  have N0 := Fr.nil n0
  show own_Go p e below s (Q0 n0) room_1.cells room_1.slots (s₁.setTop (entryFrame m #[(.int p1), (.int p2), (.int p3), (.int p4)] maxLocals))
  refine own_go (B := s₁.setTop (mkF m 0 #[.val (.int p1), .val (.int p2), .val (.int p3), .val (.int p4), .unset, .unset, .unset, .unset, .unset, .unset, .unset, .unset, .unset, .unset, .unset, .unset, .unset, .unset, .unset, .unset, .unset, .unset] [])) (fun tgt cont => (XT.entry rfl).trans cont) ?_
  refine own_go (B := s₁.setTop (mkF m 6 #[.val (.int p1), .val (.int p2), .val (.int p3), .val (.int p4), .unset, .unset, .unset, .unset, .unset, .unset, .unset, .unset, .unset, .unset, .unset, .unset, .unset, .unset, .unset, .unset, .unset, .unset] [(.long ((p2 &&& (255 : Int32)).toInt64))])) (fun tgt cont => ?_) ?_
  · refine XS.iloadN X0.here hx rfl (hb hby at_0) rfl ?_
    refine XT.sipushV X0.here hx rfl (255 : Int32) (hb hby at_1) rfl ?_
    refine XS.iand X0.here hx rfl (hb hby at_4) rfl ?_
    refine XS.i2l X0.here hx rfl (hb hby at_5) rfl ?_
    exact cont
  generalize hv1 : ((p2 &&& (255 : Int32)).toInt64) = v1
  refine own_go (B := s₁.setTop (mkF m 17 #[.val (.int p1), .val (.int p2), .val (.int p3), .val (.int p4), .val (.long v1), .second, .unset, .unset, .unset, .unset, .unset, .unset, .unset, .unset, .unset, .unset, .unset, .unset, .unset, .unset, .unset, .unset] [(.long ((((p2.toUInt32 >>> ((8 : Int32) &&& 31).toUInt32).toInt32) &&& (255 : Int32)).toInt64))])) (fun tgt cont => ?_) ?_
  · refine XS.lstore X0.here hx rfl (hb hby at_6) rfl (l' := #[.val (.int p1), .val (.int p2), .val (.int p3), .val (.int p4), .val (.long v1), .second, .unset, .unset, .unset, .unset, .unset, .unset, .unset, .unset, .unset, .unset, .unset, .unset, .unset, .unset, .unset, .unset]) rfl ?_
    refine XS.iloadN X0.here hx rfl (hb hby at_8) rfl ?_
    refine XT.bipushV X0.here hx rfl (8 : Int32) (hb hby at_9) rfl ?_
    refine XS.iushr X0.here hx rfl (hb hby at_11) rfl ?_
    refine XT.sipushV X0.here hx rfl (255 : Int32) (hb hby at_12) rfl ?_
    refine XS.iand X0.here hx rfl (hb hby at_15) rfl ?_
    refine XS.i2l X0.here hx rfl (hb hby at_16) rfl ?_
    exact cont
  generalize hv2 : ((((p2.toUInt32 >>> ((8 : Int32) &&& 31).toUInt32).toInt32) &&& (255 : Int32)).toInt64) = v2
  refine own_go (B := s₁.setTop (mkF m 28 #[.val (.int p1), .val (.int p2), .val (.int p3), .val (.int p4), .val (.long v1), .second, .val (.long v2), .second, .unset, .unset, .unset, .unset, .unset, .unset, .unset, .unset, .unset, .unset, .unset, .unset, .unset, .unset] [(.long ((((p2.toUInt32 >>> ((16 : Int32) &&& 31).toUInt32).toInt32) &&& (255 : Int32)).toInt64))])) (fun tgt cont => ?_) ?_
  · refine XS.lstore X0.here hx rfl (hb hby at_17) rfl (l' := #[.val (.int p1), .val (.int p2), .val (.int p3), .val (.int p4), .val (.long v1), .second, .val (.long v2), .second, .unset, .unset, .unset, .unset, .unset, .unset, .unset, .unset, .unset, .unset, .unset, .unset, .unset, .unset]) rfl ?_
    refine XS.iloadN X0.here hx rfl (hb hby at_19) rfl ?_
    refine XT.bipushV X0.here hx rfl (16 : Int32) (hb hby at_20) rfl ?_
    refine XS.iushr X0.here hx rfl (hb hby at_22) rfl ?_
    refine XT.sipushV X0.here hx rfl (255 : Int32) (hb hby at_23) rfl ?_
    refine XS.iand X0.here hx rfl (hb hby at_26) rfl ?_
    refine XS.i2l X0.here hx rfl (hb hby at_27) rfl ?_
    exact cont
  generalize hv3 : ((((p2.toUInt32 >>> ((16 : Int32) &&& 31).toUInt32).toInt32) &&& (255 : Int32)).toInt64) = v3
  refine own_go (B := s₁.setTop (mkF m 39 #[.val (.int p1), .val (.int p2), .val (.int p3), .val (.int p4), .val (.long v1), .second, .val (.long v2), .second, .val (.long v3), .second, .unset, .unset, .unset, .unset, .unset, .unset, .unset, .unset, .unset, .unset, .unset, .unset] [(.long ((((p2.toUInt32 >>> ((24 : Int32) &&& 31).toUInt32).toInt32) &&& (255 : Int32)).toInt64))])) (fun tgt cont => ?_) ?_
  · refine XS.lstore X0.here hx rfl (hb hby at_28) rfl (l' := #[.val (.int p1), .val (.int p2), .val (.int p3), .val (.int p4), .val (.long v1), .second, .val (.long v2), .second, .val (.long v3), .second, .unset, .unset, .unset, .unset, .unset, .unset, .unset, .unset, .unset, .unset, .unset, .unset]) rfl ?_
    refine XS.iloadN X0.here hx rfl (hb hby at_30) rfl ?_
    refine XT.bipushV X0.here hx rfl (24 : Int32) (hb hby at_31) rfl ?_
    refine XS.iushr X0.here hx rfl (hb hby at_33) rfl ?_
    refine XT.sipushV X0.here hx rfl (255 : Int32) (hb hby at_34) rfl ?_
    refine XS.iand X0.here hx rfl (hb hby at_37) rfl ?_
    refine XS.i2l X0.here hx rfl (hb hby at_38) rfl ?_
    exact cont
  generalize hv4 : ((((p2.toUInt32 >>> ((24 : Int32) &&& 31).toUInt32).toInt32) &&& (255 : Int32)).toInt64) = v4
  refine own_go (B := s₁.setTop (mkF m 56 #[.val (.int p1), .val (.int p2), .val (.int p3), .val (.int p4), .val (.long v1), .second, .val (.long v2), .second, .val (.long v3), .second, .val (.long v4), .second, .unset, .unset, .unset, .unset, .unset, .unset, .unset, .unset, .unset, .unset] [(.long (((((4 : Int64) + v1) + v2) + v3) + v4))])) (fun tgt cont => ?_) ?_
  · refine XS.lstore X0.here hx rfl (hb hby at_39) rfl (l' := #[.val (.int p1), .val (.int p2), .val (.int p3), .val (.int p4), .val (.long v1), .second, .val (.long v2), .second, .val (.long v3), .second, .val (.long v4), .second, .unset, .unset, .unset, .unset, .unset, .unset, .unset, .unset, .unset, .unset]) rfl ?_
    refine Stand.ldc2J X0 hx hown (mvT hZ (hw _ (List.mem_of_getElem? (i := 0) rfl))) rfl (hb hby at_41) ?_
    refine XS.lload X0.here hx rfl (hb hby at_44) rfl ?_
    refine XS.ladd X0.here hx rfl (hb hby at_46) rfl ?_
    refine XS.lload X0.here hx rfl (hb hby at_47) rfl ?_
    refine XS.ladd X0.here hx rfl (hb hby at_49) rfl ?_
    refine XS.lload X0.here hx rfl (hb hby at_50) rfl ?_
    refine XS.ladd X0.here hx rfl (hb hby at_52) rfl ?_
    refine XS.lload X0.here hx rfl (hb hby at_53) rfl ?_
    refine XS.ladd X0.here hx rfl (hb hby at_55) rfl ?_
    exact cont
  generalize hv5 : (((((4 : Int64) + v1) + v2) + v3) + v4) = v5
  refine own_go (B := s₁.setTop (mkF m 66 #[.val (.int p1), .val (.int p2), .val (.int p3), .val (.int p4), .val (.long v1), .second, .val (.long v2), .second, .val (.long v3), .second, .val (.long v4), .second, .val (.long v5), .second, .unset, .unset, .unset, .unset, .unset, .unset, .unset, .unset] [(.long ((2147483647 : Int64) - v5)), (.long (p1.toInt64))])) (fun tgt cont => ?_) ?_
  · refine XS.lstore X0.here hx rfl (hb hby at_56) rfl (l' := #[.val (.int p1), .val (.int p2), .val (.int p3), .val (.int p4), .val (.long v1), .second, .val (.long v2), .second, .val (.long v3), .second, .val (.long v4), .second, .val (.long v5), .second, .unset, .unset, .unset, .unset, .unset, .unset, .unset, .unset]) rfl ?_
    refine XS.iloadN X0.here hx rfl (hb hby at_58) rfl ?_
    refine XS.i2l X0.here hx rfl (hb hby at_59) rfl ?_
    refine Stand.ldc2J X0 hx hown (mvT hZ (hw _ (List.mem_of_getElem? (i := 1) rfl))) rfl (hb hby at_60) ?_
    refine XS.lload X0.here hx rfl (hb hby at_63) rfl ?_
    refine XS.lsub X0.here hx rfl (hb hby at_65) rfl ?_
    exact cont
  -- pc 66: Math.min
  obtain ⟨_, _, ⟨T6, L6, k6, n6⟩, -, X6, ⟨Lc6, hQ6, l6, y6, z6⟩, st6⟩ := Jvm.LawKit.callS X0 hx (y := (⟨"java/lang/Math", "min", "(JJ)J"⟩ : MethodName)) hown (mvT hZ (hw _ (List.mem_of_getElem? (i := 2) rfl))) (mvT hZ (hw _ (List.mem_of_getElem? (i := 3) rfl))) (mvT hZ (hw _ (List.mem_of_getElem? (i := 4) rfl))) (mvT hZ (hw _ (List.mem_of_getElem? (i := 5) rfl))) (by decide) (backOf (W := 0) (rm1 l Z a0 hw [] (p1.toInt64) ((2147483647 : Int64) - v5) h0 n0 Z0 ) hZ (hw _ (List.mem_of_getElem? (i := 5) rfl)) (hw _ (List.mem_of_getElem? (i := 4) rfl)) (by decide) (by decide)) (g := (mkF m 66 #[.val (.int p1), .val (.int p2), .val (.int p3), .val (.int p4), .val (.long v1), .second, .val (.long v2), .second, .val (.long v3), .second, .val (.long v4), .second, .val (.long v5), .second, .unset, .unset, .unset, .unset, .unset, .unset, .unset, .unset] [(.long ((2147483647 : Int64) - v5)), (.long (p1.toInt64))])) rfl (by rw [hml]; rfl) (argsL := [(.long (p1.toInt64)), (.long ((2147483647 : Int64) - v5))]) (rest := []) (lenOf own_pd0 rfl) rfl (by show 2 * 0 + _ ≤ _; exact Nat.le_of_eq rfl) (hb hby at_66) (fun _ _ => ⟨rfl, e0, (by decide : 0 + 0 ≤ _), (by decide : 0 + 0 ≤ _)⟩)
  dsimp only [Pt.U, Pt.locs, Pt.cells, Pt.slots] at X6 l6 y6 z6 st6 hQ6
  subst l6 y6 z6
  obtain ⟨rfl, N6q, e6⟩ := hQ6
  have N6 := Fr.app N0 N6q
  refine own_go (fun tgt cont => st6 tgt cont) ?_
  show own_Go p e below s (Q0 n0) room_1.cells room_1.slots (T6.setTop (mkF m 69 #[.val (.int p1), .val (.int p2), .val (.int p3), .val (.int p4), .val (.long v1), .second, .val (.long v2), .second, .val (.long v3), .second, .val (.long v4), .second, .val (.long v5), .second, .unset, .unset, .unset, .unset, .unset, .unset, .unset, .unset] [(.long (own_min (p1.toInt64) ((2147483647 : Int64) - v5)))]))
  generalize hr7 : (own_min (p1.toInt64) ((2147483647 : Int64) - v5)) = r7
  refine own_go (B := T6.setTop (mkF m 72 #[.val (.int p1), .val (.int p2), .val (.int p3), .val (.int p4), .val (.long v1), .second, .val (.long v2), .second, .val (.long v3), .second, .val (.long v4), .second, .val (.long v5), .second, .val (.long r7), .second, .unset, .unset, .unset, .unset, .unset, .unset] [(.int (5 : Int32))])) (fun tgt cont => ?_) ?_
  · refine XS.lstore X6.here hx rfl (hb hby at_69) rfl (l' := #[.val (.int p1), .val (.int p2), .val (.int p3), .val (.int p4), .val (.long v1), .second, .val (.long v2), .second, .val (.long v3), .second, .val (.long v4), .second, .val (.long v5), .second, .val (.long r7), .second, .unset, .unset, .unset, .unset, .unset, .unset]) rfl ?_
    refine XT.iconstV X6.here hx rfl (5 : Int32) (hb hby at_71) rfl ?_
    exact cont
  obtain ⟨T8, h8, X8, e8, E8, A8, AE8, st8⟩ := own_newIA X6 hx hZ (hw _ (List.mem_of_getElem? (i := 6) rfl)) e6 (g := (mkF m 72 #[.val (.int p1), .val (.int p2), .val (.int p3), .val (.int p4), .val (.long v1), .second, .val (.long v2), .second, .val (.long v3), .second, .val (.long v4), .second, .val (.long v5), .second, .val (.long r7), .second, .unset, .unset, .unset, .unset, .unset, .unset] [(.int (5 : Int32))])) rfl (hb hby at_72) rfl (by decide) (cap := 5) (by decide) (by decide) (by decide) (by decide)
  obtain ⟨b8, g8⟩ : ∃ z, z = h0.size := ⟨_, rfl⟩
  rw [← g8] at A8 AE8 st8
  have g_b8 : n0 ≤ b8 := Nat.le_trans Z0 (Nat.le_of_eq g8.symm)
  have sz_b8 : h0.size ≤ b8 := Nat.le_trans (Keep.refl h0 []).1 (Nat.le_of_eq g8.symm)
  have kk8 : Keep h0 h8 [] := (Keep.refl h0 []).ext E8
  have zp8 : n0 ≤ h8.size := Nat.le_trans Z0 kk8.1
  have A8v : own_IA Z h8 b8 [(0 : Int32), (0 : Int32), (0 : Int32), (0 : Int32), (0 : Int32)] := A8
  refine own_go (fun tgt cont => st8 tgt cont) ?_
  show own_Go p e below s (Q0 n0) room_1.cells room_1.slots (T8.setTop (mkF m 74 #[.val (.int p1), .val (.int p2), .val (.int p3), .val (.int p4), .val (.long v1), .second, .val (.long v2), .second, .val (.long v3), .second, .val (.long v4), .second, .val (.long v5), .second, .val (.long r7), .second, .unset, .unset, .unset, .unset, .unset, .unset] [(.ref b8)]))
  refine own_go (B := T8.setTop (mkF m 82 #[.val (.int p1), .val (.int p2), .val (.int p3), .val (.int p4), .val (.long v1), .second, .val (.long v2), .second, .val (.long v3), .second, .val (.long v4), .second, .val (.long v5), .second, .val (.long r7), .second, .val (.ref b8), .unset, .unset, .unset, .unset, .unset] [(.int (r7.toInt32)), (.int (0 : Int32)), (.ref b8)])) (fun tgt cont => ?_) ?_
  · refine XS.astore X8.here hx rfl (hb hby at_74) rfl rfl (l' := #[.val (.int p1), .val (.int p2), .val (.int p3), .val (.int p4), .val (.long v1), .second, .val (.long v2), .second, .val (.long v3), .second, .val (.long v4), .second, .val (.long v5), .second, .val (.long r7), .second, .val (.ref b8), .unset, .unset, .unset, .unset, .unset]) rfl ?_
    refine XS.aload X8.here hx rfl (hb hby at_76) rfl rfl ?_
    refine XT.iconstV X8.here hx rfl (0 : Int32) (hb hby at_78) rfl ?_
    refine XS.lload X8.here hx rfl (hb hby at_79) rfl ?_
    refine XS.l2i X8.here hx rfl (hb hby at_81) rfl ?_
    exact cont
  generalize hv9 : (r7.toInt32) = v9
  obtain ⟨T10, h10, X10, e10, W10, A10, st10⟩ := own_stIA X8 hx hZ e8 A8v (j := (0 : Int32)) (x := v9) ⟨by decide, Nat.le_of_ble_eq_true rfl⟩ (g := (mkF m 82 #[.val (.int p1), .val (.int p2), .val (.int p3), .val (.int p4), .val (.long v1), .second, .val (.long v2), .second, .val (.long v3), .second, .val (.long v4), .second, .val (.long v5), .second, .val (.long r7), .second, .val (.ref b8), .unset, .unset, .unset, .unset, .unset] [(.int v9), (.int (0 : Int32)), (.ref b8)])) rfl rfl (hb hby at_82)
  have N10 := Fr.snoc X10 N6 g_b8
  have kk10 : Keep h0 h10 [] := kk8.wr W10 (Or.inr sz_b8)
  have zp10 : n0 ≤ h10.size := Nat.le_trans Z0 kk10.1
  have A10v : own_IA Z h10 b8 [v9, (0 : Int32), (0 : Int32), (0 : Int32), (0 : Int32)] := A10
  refine own_go (fun tgt cont => st10 tgt cont) ?_
  show own_Go p e below s (Q0 n0) room_1.cells room_1.slots (T10.setTop (mkF m 83 #[.val (.int p1), .val (.int p2), .val (.int p3), .val (.int p4), .val (.long v1), .second, .val (.long v2), .second, .val (.long v3), .second, .val (.long v4), .second, .val (.long v5), .second, .val (.long r7), .second, .val (.ref b8), .unset, .unset, .unset, .unset, .unset] []))
  refine own_go (B := T10.setTop (mkF m 94 #[.val (.int p1), .val (.int p2), .val (.int p3), .val (.int p4), .val (.long v1), .second, .val (.long v2), .second, .val (.long v3), .second, .val (.long v4), .second, .val (.long v5), .second, .val (.long r7), .second, .val (.ref b8), .unset, .unset, .unset, .unset, .unset] [(.int (((r7 + (1 : Int64)) + v1).toInt32)), (.int (1 : Int32)), (.ref b8)])) (fun tgt cont => ?_) ?_
  · refine XS.aload X10.here hx rfl (hb hby at_83) rfl rfl ?_
    refine XT.iconstV X10.here hx rfl (1 : Int32) (hb hby at_85) rfl ?_
    refine XS.lload X10.here hx rfl (hb hby at_86) rfl ?_
    refine XT.lconstV X10.here hx rfl (1 : Int64) (hb hby at_88) rfl ?_
    refine XS.ladd X10.here hx rfl (hb hby at_89) rfl ?_
    refine XS.lload X10.here hx rfl (hb hby at_90) rfl ?_
    refine XS.ladd X10.here hx rfl (hb hby at_92) rfl ?_
    refine XS.l2i X10.here hx rfl (hb hby at_93) rfl ?_
    exact cont
  generalize hv11 : (((r7 + (1 : Int64)) + v1).toInt32) = v11
  obtain ⟨T12, h12, X12, e12, W12, A12, st12⟩ := own_stIA X10 hx hZ e10 A10v (j := (1 : Int32)) (x := v11) ⟨by decide, Nat.le_of_ble_eq_true rfl⟩ (g := (mkF m 94 #[.val (.int p1), .val (.int p2), .val (.int p3), .val (.int p4), .val (.long v1), .second, .val (.long v2), .second, .val (.long v3), .second, .val (.long v4), .second, .val (.long v5), .second, .val (.long r7), .second, .val (.ref b8), .unset, .unset, .unset, .unset, .unset] [(.int v11), (.int (1 : Int32)), (.ref b8)])) rfl rfl (hb hby at_94)
  have N12 := Fr.snoc X12 N10 g_b8
  have kk12 : Keep h0 h12 [] := kk10.wr W12 (Or.inr sz_b8)
  have zp12 : n0 ≤ h12.size := Nat.le_trans Z0 kk12.1
  have A12v : own_IA Z h12 b8 [v9, v11, (0 : Int32), (0 : Int32), (0 : Int32)] := A12
  refine own_go (fun tgt cont => st12 tgt cont) ?_
  show own_Go p e below s (Q0 n0) room_1.cells room_1.slots (T12.setTop (mkF m 95 #[.val (.int p1), .val (.int p2), .val (.int p3), .val (.int p4), .val (.long v1), .second, .val (.long v2), .second, .val (.long v3), .second, .val (.long v4), .second, .val (.long v5), .second, .val (.long r7), .second, .val (.ref b8), .unset, .unset, .unset, .unset, .unset] []))
  refine own_go (B := T12.setTop (mkF m 111 #[.val (.int p1), .val (.int p2), .val (.int p3), .val (.int p4), .val (.long v1), .second, .val (.long v2), .second, .val (.long v3), .second, .val (.long v4), .second, .val (.long v5), .second, .val (.long r7), .second, .val (.ref b8), .unset, .unset, .unset, .unset, .unset] [(.int ((((r7 + (2 : Int64)) + v1) + v2).toInt32)), (.int (2 : Int32)), (.ref b8)])) (fun tgt cont => ?_) ?_
  · refine XS.aload X12.here hx rfl (hb hby at_95) rfl rfl ?_
    refine XT.iconstV X12.here hx rfl (2 : Int32) (hb hby at_97) rfl ?_
    refine XS.lload X12.here hx rfl (hb hby at_98) rfl ?_
    refine Stand.ldc2J X12 hx hown (mvT hZ (hw _ (List.mem_of_getElem? (i := 7) rfl))) rfl (hb hby at_100) ?_
    refine XS.ladd X12.here hx rfl (hb hby at_103) rfl ?_
    refine XS.lload X12.here hx rfl (hb hby at_104) rfl ?_
    refine XS.ladd X12.here hx rfl (hb hby at_106) rfl ?_
    refine XS.lload X12.here hx rfl (hb hby at_107) rfl ?_
    refine XS.ladd X12.here hx rfl (hb hby at_109) rfl ?_
    refine XS.l2i X12.here hx rfl (hb hby at_110) rfl ?_
    exact cont
  generalize hv13 : ((((r7 + (2 : Int64)) + v1) + v2).toInt32) = v13
  obtain ⟨T14, h14, X14, e14, W14, A14, st14⟩ := own_stIA X12 hx hZ e12 A12v (j := (2 : Int32)) (x := v13) ⟨by decide, Nat.le_of_ble_eq_true rfl⟩ (g := (mkF m 111 #[.val (.int p1), .val (.int p2), .val (.int p3), .val (.int p4), .val (.long v1), .second, .val (.long v2), .second, .val (.long v3), .second, .val (.long v4), .second, .val (.long v5), .second, .val (.long r7), .second, .val (.ref b8), .unset, .unset, .unset, .unset, .unset] [(.int v13), (.int (2 : Int32)), (.ref b8)])) rfl rfl (hb hby at_111)
  have N14 := Fr.snoc X14 N12 g_b8
  have kk14 : Keep h0 h14 [] := kk12.wr W14 (Or.inr sz_b8)
  have zp14 : n0 ≤ h14.size := Nat.le_trans Z0 kk14.1
  have A14v : own_IA Z h14 b8 [v9, v11, v13, (0 : Int32), (0 : Int32)] := A14
  refine own_go (fun tgt cont => st14 tgt cont) ?_
  show own_Go p e below s (Q0 n0) room_1.cells room_1.slots (T14.setTop (mkF m 112 #[.val (.int p1), .val (.int p2), .val (.int p3), .val (.int p4), .val (.long v1), .second, .val (.long v2), .second, .val (.long v3), .second, .val (.long v4), .second, .val (.long v5), .second, .val (.long r7), .second, .val (.ref b8), .unset, .unset, .unset, .unset, .unset] []))
  refine own_go (B := T14.setTop (mkF m 129 #[.val (.int p1), .val (.int p2), .val (.int p3), .val (.int p4), .val (.long v1), .second, .val (.long v2), .second, .val (.long v3), .second, .val (.long v4), .second, .val (.long v5), .second, .val (.long r7), .second, .val (.ref b8), .unset, .unset, .unset, .unset, .unset] [(.long v3), (.long (((r7 + (3 : Int64)) + v1) + v2)), (.int (3 : Int32)), (.ref b8)])) (fun tgt cont => ?_) ?_
  · refine XS.aload X14.here hx rfl (hb hby at_112) rfl rfl ?_
    refine XT.iconstV X14.here hx rfl (3 : Int32) (hb hby at_114) rfl ?_
    refine XS.lload X14.here hx rfl (hb hby at_115) rfl ?_
    refine Stand.ldc2J X14 hx hown (mvT hZ (hw _ (List.mem_of_getElem? (i := 8) rfl))) rfl (hb hby at_117) ?_
    refine XS.ladd X14.here hx rfl (hb hby at_120) rfl ?_
    refine XS.lload X14.here hx rfl (hb hby at_121) rfl ?_
    refine XS.ladd X14.here hx rfl (hb hby at_123) rfl ?_
    refine XS.lload X14.here hx rfl (hb hby at_124) rfl ?_
    refine XS.ladd X14.here hx rfl (hb hby at_126) rfl ?_
    refine XS.lload X14.here hx rfl (hb hby at_127) rfl ?_
    exact cont
  refine own_go (B := T14.setTop (mkF m 131 #[.val (.int p1), .val (.int p2), .val (.int p3), .val (.int p4), .val (.long v1), .second, .val (.long v2), .second, .val (.long v3), .second, .val (.long v4), .second, .val (.long v5), .second, .val (.long r7), .second, .val (.ref b8), .unset, .unset, .unset, .unset, .unset] [(.int (((((r7 + (3 : Int64)) + v1) + v2) + v3).toInt32)), (.int (3 : Int32)), (.ref b8)])) (fun tgt cont => ?_) ?_
  · refine XS.ladd X14.here hx rfl (hb hby at_129) rfl ?_
    refine XS.l2i X14.here hx rfl (hb hby at_130) rfl ?_
    exact cont
  generalize hv15 : (((((r7 + (3 : Int64)) + v1) + v2) + v3).toInt32) = v15
  obtain ⟨T16, h16, X16, e16, W16, A16, st16⟩ := own_stIA X14 hx hZ e14 A14v (j := (3 : Int32)) (x := v15) ⟨by decide, Nat.le_of_ble_eq_true rfl⟩ (g := (mkF m 131 #[.val (.int p1), .val (.int p2), .val (.int p3), .val (.int p4), .val (.long v1), .second, .val (.long v2), .second, .val (.long v3), .second, .val (.long v4), .second, .val (.long v5), .second, .val (.long r7), .second, .val (.ref b8), .unset, .unset, .unset, .unset, .unset] [(.int v15), (.int (3 : Int32)), (.ref b8)])) rfl rfl (hb hby at_131)
  have N16 := Fr.snoc X16 N14 g_b8
  have kk16 : Keep h0 h16 [] := kk14.wr W16 (Or.inr sz_b8)
  have zp16 : n0 ≤ h16.size := Nat.le_trans Z0 kk16.1
  have A16v : own_IA Z h16 b8 [v9, v11, v13, v15, (0 : Int32)] := A16
  refine own_go (fun tgt cont => st16 tgt cont) ?_
  show own_Go p e below s (Q0 n0) room_1.cells room_1.slots (T16.setTop (mkF m 132 #[.val (.int p1), .val (.int p2), .val (.int p3), .val (.int p4), .val (.long v1), .second, .val (.long v2), .second, .val (.long v3), .second, .val (.long v4), .second, .val (.long v5), .second, .val (.long r7), .second, .val (.ref b8), .unset, .unset, .unset, .unset, .unset] []))
  refine own_go (B := T16.setTop (mkF m 149 #[.val (.int p1), .val (.int p2), .val (.int p3), .val (.int p4), .val (.long v1), .second, .val (.long v2), .second, .val (.long v3), .second, .val (.long v4), .second, .val (.long v5), .second, .val (.long r7), .second, .val (.ref b8), .unset, .unset, .unset, .unset, .unset] [(.long v3), (.long (((r7 + (4 : Int64)) + v1) + v2)), (.int (4 : Int32)), (.ref b8)])) (fun tgt cont => ?_) ?_
  · refine XS.aload X16.here hx rfl (hb hby at_132) rfl rfl ?_
    refine XT.iconstV X16.here hx rfl (4 : Int32) (hb hby at_134) rfl ?_
    refine XS.lload X16.here hx rfl (hb hby at_135) rfl ?_
    refine Stand.ldc2J X16 hx hown (mvT hZ (hw _ (List.mem_of_getElem? (i := 0) rfl))) rfl (hb hby at_137) ?_
    refine XS.ladd X16.here hx rfl (hb hby at_140) rfl ?_
    refine XS.lload X16.here hx rfl (hb hby at_141) rfl ?_
    refine XS.ladd X16.here hx rfl (hb hby at_143) rfl ?_
    refine XS.lload X16.here hx rfl (hb hby at_144) rfl ?_
    refine XS.ladd X16.here hx rfl (hb hby at_146) rfl ?_
    refine XS.lload X16.here hx rfl (hb hby at_147) rfl ?_
    exact cont
  refine own_go (B := T16.setTop (mkF m 154 #[.val (.int p1), .val (.int p2), .val (.int p3), .val (.int p4), .val (.long v1), .second, .val (.long v2), .second, .val (.long v3), .second, .val (.long v4), .second, .val (.long v5), .second, .val (.long r7), .second, .val (.ref b8), .unset, .unset, .unset, .unset, .unset] [(.int ((((((r7 + (4 : Int64)) + v1) + v2) + v3) + v4).toInt32)), (.int (4 : Int32)), (.ref b8)])) (fun tgt cont => ?_) ?_
  · refine XS.ladd X16.here hx rfl (hb hby at_149) rfl ?_
    refine XS.lload X16.here hx rfl (hb hby at_150) rfl ?_
    refine XS.ladd X16.here hx rfl (hb hby at_152) rfl ?_
    refine XS.l2i X16.here hx rfl (hb hby at_153) rfl ?_
    exact cont
  generalize hv17 : ((((((r7 + (4 : Int64)) + v1) + v2) + v3) + v4).toInt32) = v17
  obtain ⟨T18, h18, X18, e18, W18, A18, st18⟩ := own_stIA X16 hx hZ e16 A16v (j := (4 : Int32)) (x := v17) ⟨by decide, Nat.le_of_ble_eq_true rfl⟩ (g := (mkF m 154 #[.val (.int p1), .val (.int p2), .val (.int p3), .val (.int p4), .val (.long v1), .second, .val (.long v2), .second, .val (.long v3), .second, .val (.long v4), .second, .val (.long v5), .second, .val (.long r7), .second, .val (.ref b8), .unset, .unset, .unset, .unset, .unset] [(.int v17), (.int (4 : Int32)), (.ref b8)])) rfl rfl (hb hby at_154)
  have N18 := Fr.snoc X18 N16 g_b8
  have kk18 : Keep h0 h18 [] := kk16.wr W18 (Or.inr sz_b8)
  have zp18 : n0 ≤ h18.size := Nat.le_trans Z0 kk18.1
  have A18v : own_IA Z h18 b8 [v9, v11, v13, v15, v17] := A18
  refine own_go (fun tgt cont => st18 tgt cont) ?_
  show own_Go p e below s (Q0 n0) room_1.cells room_1.slots (T18.setTop (mkF m 155 #[.val (.int p1), .val (.int p2), .val (.int p3), .val (.int p4), .val (.long v1), .second, .val (.long v2), .second, .val (.long v3), .second, .val (.long v4), .second, .val (.long v5), .second, .val (.long r7), .second, .val (.ref b8), .unset, .unset, .unset, .unset, .unset] []))
  refine own_go (B := T18.setTop (mkF m 159 #[.val (.int p1), .val (.int p2), .val (.int p3), .val (.int p4), .val (.long v1), .second, .val (.long v2), .second, .val (.long v3), .second, .val (.long v4), .second, .val (.long v5), .second, .val (.long r7), .second, .val (.ref b8), .unset, .unset, .unset, .unset, .unset] [(.int (p3 &&& (31 : Int32)))])) (fun tgt cont => ?_) ?_
  · refine XS.iloadN X18.here hx rfl (hb hby at_155) rfl ?_
    refine XT.bipushV X18.here hx rfl (31 : Int32) (hb hby at_156) rfl ?_
    refine XS.iand X18.here hx rfl (hb hby at_158) rfl ?_
    exact cont
  generalize hv19 : (p3 &&& (31 : Int32)) = v19
  refine own_go (B := T18.setTop (mkF m 165 #[.val (.int p1), .val (.int p2), .val (.int p3), .val (.int p4), .val (.long v1), .second, .val (.long v2), .second, .val (.long v3), .second, .val (.long v4), .second, .val (.long v5), .second, .val (.long r7), .second, .val (.ref b8), .val (.int v19), .unset, .unset, .unset, .unset] [(.int (p4 &&& (31 : Int32)))])) (fun tgt cont => ?_) ?_
  · refine XS.istore X18.here hx rfl (hb hby at_159) rfl (l' := #[.val (.int p1), .val (.int p2), .val (.int p3), .val (.int p4), .val (.long v1), .second, .val (.long v2), .second, .val (.long v3), .second, .val (.long v4), .second, .val (.long v5), .second, .val (.long r7), .second, .val (.ref b8), .val (.int v19), .unset, .unset, .unset, .unset]) rfl ?_
    refine XS.iloadN X18.here hx rfl (hb hby at_161) rfl ?_
    refine XT.bipushV X18.here hx rfl (31 : Int32) (hb hby at_162) rfl ?_
    refine XS.iand X18.here hx rfl (hb hby at_164) rfl ?_
    exact cont
  generalize hv20 : (p4 &&& (31 : Int32)) = v20
  refine own_go (B := T18.setTop (mkF m 171 #[.val (.int p1), .val (.int p2), .val (.int p3), .val (.int p4), .val (.long v1), .second, .val (.long v2), .second, .val (.long v3), .second, .val (.long v4), .second, .val (.long v5), .second, .val (.long r7), .second, .val (.ref b8), .val (.int v19), .val (.int v20), .unset, .unset, .unset] [(.int v19), (.ref b8)])) (fun tgt cont => ?_) ?_
  · refine XS.istore X18.here hx rfl (hb hby at_165) rfl (l' := #[.val (.int p1), .val (.int p2), .val (.int p3), .val (.int p4), .val (.long v1), .second, .val (.long v2), .second, .val (.long v3), .second, .val (.long v4), .second, .val (.long v5), .second, .val (.long r7), .second, .val (.ref b8), .val (.int v19), .val (.int v20), .unset, .unset, .unset]) rfl ?_
    refine XS.aload X18.here hx rfl (hb hby at_167) rfl rfl ?_
    refine XS.iload X18.here hx rfl (hb hby at_169) rfl ?_
    exact cont
  -- pc 171: SortedSetsHoldsPinLaw.pick
  obtain ⟨_, _, ⟨T21, L21, k21, n21⟩, -, X21, ⟨Lc21, hQ21, l21, y21, z21⟩, st21⟩ := Jvm.LawKit.callS X18 hx (y := (⟨"com/example/treebound/treebound/SortedSetsHoldsPinLaw", "pick", "([II)[I"⟩ : MethodName)) hown (mvT hZ (hw _ (List.mem_of_getElem? (i := 9) rfl))) (mvT hZ (hw _ (List.mem_of_getElem? (i := 10) rfl))) (mvT hZ (hw _ (List.mem_of_getElem? (i := 11) rfl))) (mvT hZ (hw _ (List.mem_of_getElem? (i := 12) rfl))) (by decide) (backOf (W := 0) (rm2 l Z a0 hw [] b8 v19 v9 v11 v13 v15 v17 h18 n0 zp18 A18v) hZ (hw _ (List.mem_of_getElem? (i := 12) rfl)) (hw _ (List.mem_of_getElem? (i := 11) rfl)) (by decide) (by decide)) (g := (mkF m 171 #[.val (.int p1), .val (.int p2), .val (.int p3), .val (.int p4), .val (.long v1), .second, .val (.long v2), .second, .val (.long v3), .second, .val (.long v4), .second, .val (.long v5), .second, .val (.long r7), .second, .val (.ref b8), .val (.int v19), .val (.int v20), .unset, .unset, .unset] [(.int v19), (.ref b8)])) rfl (by rw [hml]; rfl) (argsL := [(.ref b8), (.int v19)]) (rest := []) (lenOf own_pd1 rfl) rfl (by show 2 * 0 + _ ≤ _; exact Nat.le_of_eq rfl) (hb hby at_171) (fun _ _ => ⟨rfl, e18, (by decide : 0 + 0 + 1 + 2 ≤ _), (by decide : 0 + 0 + 5 + 10 ≤ _)⟩)
  dsimp only [Pt.U, Pt.locs, Pt.cells, Pt.slots] at X21 l21 y21 z21 st21 hQ21
  subst l21 y21 z21
  obtain ⟨b21, rfl, N21q, K21, gb21, ab21, eb21⟩ := hQ21
  have N21 := Fr.app N18 N21q
  have g_b21 : n0 ≤ b21 := Nat.le_trans zp18 gb21
  have sz_b21 : h0.size ≤ b21 := Nat.le_trans kk18.1 gb21
  have ne_b8_b21 : b8 ≠ b21 := Nat.ne_of_lt (Nat.lt_of_lt_of_le A18v.lt gb21)
  have kk21 : Keep h0 T21.heap [] := kk18.trans K21 all0
  have zp21 : n0 ≤ T21.heap.size := Nat.le_trans Z0 kk21.1
  generalize hw22 : (own_pick v19 v9 v11 v13 v15 v17) = w22 at ab21
  refine own_go (fun tgt cont => st21 tgt cont) ?_
  show own_Go p e below s (Q0 n0) room_1.cells room_1.slots (T21.setTop (mkF m 174 #[.val (.int p1), .val (.int p2), .val (.int p3), .val (.int p4), .val (.long v1), .second, .val (.long v2), .second, .val (.long v3), .second, .val (.long v4), .second, .val (.long v5), .second, .val (.long r7), .second, .val (.ref b8), .val (.int v19), .val (.int v20), .unset, .unset, .unset] [(.ref b21)]))
  refine own_go (B := T21.setTop (mkF m 180 #[.val (.int p1), .val (.int p2), .val (.int p3), .val (.int p4), .val (.long v1), .second, .val (.long v2), .second, .val (.long v3), .second, .val (.long v4), .second, .val (.long v5), .second, .val (.long r7), .second, .val (.ref b8), .val (.int v19), .val (.int v20), .val (.ref b21), .unset, .unset] [(.int v20), (.ref b8)])) (fun tgt cont => ?_) ?_
  · refine XS.astore X21.here hx rfl (hb hby at_174) rfl rfl (l' := #[.val (.int p1), .val (.int p2), .val (.int p3), .val (.int p4), .val (.long v1), .second, .val (.long v2), .second, .val (.long v3), .second, .val (.long v4), .second, .val (.long v5), .second, .val (.long r7), .second, .val (.ref b8), .val (.int v19), .val (.int v20), .val (.ref b21), .unset, .unset]) rfl ?_
    refine XS.aload X21.here hx rfl (hb hby at_176) rfl rfl ?_
    refine XS.iload X21.here hx rfl (hb hby at_178) rfl ?_
    exact cont
  -- pc 180: SortedSetsHoldsPinLaw.pick
  have f24 := (A18v.keep K21 nin0)
  obtain ⟨_, _, ⟨T23, L23, k23, n23⟩, -, X23, ⟨Lc23, hQ23, l23, y23, z23⟩, st23⟩ := Jvm.LawKit.callS X21 hx (y := (⟨"com/example/treebound/treebound/SortedSetsHoldsPinLaw", "pick", "([II)[I"⟩ : MethodName)) hown (mvT hZ (hw _ (List.mem_of_getElem? (i := 9) rfl))) (mvT hZ (hw _ (List.mem_of_getElem? (i := 10) rfl))) (mvT hZ (hw _ (List.mem_of_getElem? (i := 11) rfl))) (mvT hZ (hw _ (List.mem_of_getElem? (i := 12) rfl))) (by decide) (backOf (W := 0) (rm2 l Z a0 hw [] b8 v20 v9 v11 v13 v15 v17 T21.heap n0 zp21 f24) hZ (hw _ (List.mem_of_getElem? (i := 12) rfl)) (hw _ (List.mem_of_getElem? (i := 11) rfl)) (by decide) (by decide)) (g := (mkF m 180 #[.val (.int p1), .val (.int p2), .val (.int p3), .val (.int p4), .val (.long v1), .second, .val (.long v2), .second, .val (.long v3), .second, .val (.long v4), .second, .val (.long v5), .second, .val (.long r7), .second, .val (.ref b8), .val (.int v19), .val (.int v20), .val (.ref b21), .unset, .unset] [(.int v20), (.ref b8)])) rfl (by rw [hml]; rfl) (argsL := [(.ref b8), (.int v20)]) (rest := []) (lenOf own_pd1 rfl) rfl (by show 2 * 0 + _ ≤ _; exact Nat.le_of_eq rfl) (hb hby at_180) (fun _ _ => ⟨rfl, rfl, (by decide : 0 + 0 + 1 + 2 + 2 ≤ _), (by decide : 0 + 0 + 5 + 10 + 10 ≤ _)⟩)
  dsimp only [Pt.U, Pt.locs, Pt.cells, Pt.slots] at X23 l23 y23 z23 st23 hQ23
  subst l23 y23 z23
  obtain ⟨b23, rfl, N23q, K23, gb23, ab23, eb23⟩ := hQ23
  have N23 := Fr.app N21 N23q
  have g_b23 : n0 ≤ b23 := Nat.le_trans zp21 gb23
  have sz_b23 : h0.size ≤ b23 := Nat.le_trans kk21.1 gb23
  have ne_b8_b23 : b8 ≠ b23 := Nat.ne_of_lt (Nat.lt_of_lt_of_le f24.lt gb23)
  have ne_b21_b23 : b21 ≠ b23 := Nat.ne_of_lt (Nat.lt_of_lt_of_le eb21.lt gb23)
  have kk23 : Keep h0 T23.heap [] := kk21.trans K23 all0
  have zp23 : n0 ≤ T23.heap.size := Nat.le_trans Z0 kk23.1
  generalize hw25 : (own_pick v20 v9 v11 v13 v15 v17) = w25 at ab23
  refine own_go (fun tgt cont => st23 tgt cont) ?_
  show own_Go p e below s (Q0 n0) room_1.cells room_1.slots (T23.setTop (mkF m 183 #[.val (.int p1), .val (.int p2), .val (.int p3), .val (.int p4), .val (.long v1), .second, .val (.long v2), .second, .val (.long v3), .second, .val (.long v4), .second, .val (.long v5), .second, .val (.long r7), .second, .val (.ref b8), .val (.int v19), .val (.int v20), .val (.ref b21), .unset, .unset] [(.ref b23)]))
  refine own_go (B := T23.setTop (mkF m 192 #[.val (.int p1), .val (.int p2), .val (.int p3), .val (.int p4), .val (.long v1), .second, .val (.long v2), .second, .val (.long v3), .second, .val (.long v4), .second, .val (.long v5), .second, .val (.long r7), .second, .val (.ref b8), .val (.int v19), .val (.int v20), .val (.ref b21), .val (.ref b23), .unset] [(.int (v20 &&& (v19 ^^^ (-1 : Int32))))])) (fun tgt cont => ?_) ?_
  · refine XS.astore X23.here hx rfl (hb hby at_183) rfl rfl (l' := #[.val (.int p1), .val (.int p2), .val (.int p3), .val (.int p4), .val (.long v1), .second, .val (.long v2), .second, .val (.long v3), .second, .val (.long v4), .second, .val (.long v5), .second, .val (.long r7), .second, .val (.ref b8), .val (.int v19), .val (.int v20), .val (.ref b21), .val (.ref b23), .unset]) rfl ?_
    refine XS.iload X23.here hx rfl (hb hby at_185) rfl ?_
    refine XS.iload X23.here hx rfl (hb hby at_187) rfl ?_
    refine XT.iconstV X23.here hx rfl (-1 : Int32) (hb hby at_189) rfl ?_
    refine XS.ixor X23.here hx rfl (hb hby at_190) rfl ?_
    refine XS.iand X23.here hx rfl (hb hby at_191) rfl ?_
    exact cont
  have K26 : ∀ (v27 : Int32) (hv27 : v27 = (if (v20 &&& (v19 ^^^ (-1 : Int32))) = 0 then (1 : Int32) else (0 : Int32))), own_Go p e below s (Q0 n0) room_1.cells room_1.slots (T23.setTop (mkF m 200 #[.val (.int p1), .val (.int p2), .val (.int p3), .val (.int p4), .val (.long v1), .second, .val (.long v2), .second, .val (.long v3), .second, .val (.long v4), .second, .val (.long v5), .second, .val (.long r7), .second, .val (.ref b8), .val (.int v19), .val (.int v20), .val (.ref b21), .val (.ref b23), .unset] [(.int v27)])) := by
    intro v27 hv27
    refine own_go (B := T23.setTop (mkF m 206 #[.val (.int p1), .val (.int p2), .val (.int p3), .val (.int p4), .val (.long v1), .second, .val (.long v2), .second, .val (.long v3), .second, .val (.long v4), .second, .val (.long v5), .second, .val (.long r7), .second, .val (.ref b8), .val (.int v19), .val (.int v20), .val (.ref b21), .val (.ref b23), .val (.int v27)] [(.ref b23), (.ref b21)])) (fun tgt cont => ?_) ?_
    · refine XS.istore X23.here hx rfl (hb hby at_200) rfl (l' := #[.val (.int p1), .val (.int p2), .val (.int p3), .val (.int p4), .val (.long v1), .second, .val (.long v2), .second, .val (.long v3), .second, .val (.long v4), .second, .val (.long v5), .second, .val (.long r7), .second, .val (.ref b8), .val (.int v19), .val (.int v20), .val (.ref b21), .val (.ref b23), .val (.int v27)]) rfl ?_
      refine XS.aload X23.here hx rfl (hb hby at_202) rfl rfl ?_
      refine XS.aload X23.here hx rfl (hb hby at_204) rfl rfl ?_
      exact cont
    -- pc 206: SortedSets.holds
    have f29 := (ab21.keep K23 nin0)
    obtain ⟨_, _, ⟨T28, L28, k28, n28⟩, -, X28, ⟨Lc28, hQ28, l28, y28, z28⟩, st28⟩ := Jvm.LawKit.callS X23 hx (y := (⟨"com/example/treebound/treebound/SortedSets", "holds", "([I[I)Z"⟩ : MethodName)) hown (mvT hZ (hw _ (List.mem_of_getElem? (i := 13) rfl))) (mvT hZ (hw _ (List.mem_of_getElem? (i := 14) rfl))) (mvT hZ (hw _ (List.mem_of_getElem? (i := 15) rfl))) (mvT hZ (hw _ (List.mem_of_getElem? (i := 16) rfl))) (by decide) (backOf (W := 0) (rm3 l Z a0 hw [] b21 b23 w22 w25 T23.heap n0 zp23 f29 ab23) hZ (hw _ (List.mem_of_getElem? (i := 16) rfl)) (hw _ (List.mem_of_getElem? (i := 15) rfl)) (by decide) (by decide)) (g := (mkF m 206 #[.val (.int p1), .val (.int p2), .val (.int p3), .val (.int p4), .val (.long v1), .second, .val (.long v2), .second, .val (.long v3), .second, .val (.long v4), .second, .val (.long v5), .second, .val (.long r7), .second, .val (.ref b8), .val (.int v19), .val (.int v20), .val (.ref b21), .val (.ref b23), .val (.int v27)] [(.ref b23), (.ref b21)])) rfl (by rw [hml]; rfl) (argsL := [(.ref b21), (.ref b23)]) (rest := []) (lenOf own_pd2 rfl) rfl (by show 2 * 0 + _ ≤ _; exact Nat.le_of_eq rfl) (hb hby at_206) (fun _ _ => ⟨rfl, rfl, (by decide : 0 + 0 + 1 + 2 + 2 + 0 ≤ _), (by decide : 0 + 0 + 5 + 10 + 10 + 0 ≤ _)⟩)
    dsimp only [Pt.U, Pt.locs, Pt.cells, Pt.slots] at X28 l28 y28 z28 st28 hQ28
    subst l28 y28 z28
    obtain ⟨rfl, N28q, e28⟩ := hQ28
    have N28 := Fr.app N23 N28q
    refine own_go (fun tgt cont => st28 tgt cont) ?_
    show own_Go p e below s (Q0 n0) room_1.cells room_1.slots (T28.setTop (mkF m 209 #[.val (.int p1), .val (.int p2), .val (.int p3), .val (.int p4), .val (.long v1), .second, .val (.long v2), .second, .val (.long v3), .second, .val (.long v4), .second, .val (.long v5), .second, .val (.long r7), .second, .val (.ref b8), .val (.int v19), .val (.int v20), .val (.ref b21), .val (.ref b23), .val (.int v27)] [(.int (own_hd w25 w22))]))
    generalize hr30 : (own_hd w25 w22) = r30
    refine own_go (B := T28.setTop (mkF m 219 #[.val (.int p1), .val (.int p2), .val (.int p3), .val (.int p4), .val (.long v1), .second, .val (.long v2), .second, .val (.long v3), .second, .val (.long v4), .second, .val (.long v5), .second, .val (.long r7), .second, .val (.ref b8), .val (.int v19), .val (.int v20), .val (.ref b21), .val (.ref b23), .val (.int v27)] [(.int (1 : Int32))])) (fun tgt cont => ?_) ?_
    · refine XS.iload X28.here hx rfl (hb hby at_209) rfl ?_
      refine XS.icmpNo X28.here hx rfl (hb hby at_211) rfl (XT.ii_ne_f (by subst hr30 hv27 hv20 hv19 hw25 hw22; exact own_eq5 p4 v9 v11 v13 v15 v17 p3 (by subst hv9 hv11 hv13 hv15 hv17 hr7 hv5; exact own_eq4 p1 v1 v2 v3 v4 (by subst hv1; exact own_eq0 p2 ) (by subst hv2; exact own_eq1 p2 ) (by subst hv3; exact own_eq2 p2 ) (by subst hv4; exact own_eq3 p2 )))) ?_
      refine XT.iconstV X28.here hx rfl (1 : Int32) (hb hby at_214) rfl ?_
      refine XS.goto X28.here hx rfl (pc0 := 215) (pc' := 219) rfl (hb hby at_215) (by decide) (by decide) ?_
      exact cont
    refine own_end X28 (v := some (.int (1 : Int32))) (fun h => by rw [Bd.returns] at h; cases h) hlk ?_ (by decide) (by decide) (fun fs hl => retN X28 hx (t := .boolean) Bd.returns (by simp) (hb hby at_219) hl)
    exact ⟨rfl, N28⟩
  by_cases hc31 : (v20 &&& (v19 ^^^ (-1 : Int32))) = 0
  ·
    refine own_go (B := T23.setTop (mkF m 200 #[.val (.int p1), .val (.int p2), .val (.int p3), .val (.int p4), .val (.long v1), .second, .val (.long v2), .second, .val (.long v3), .second, .val (.long v4), .second, .val (.long v5), .second, .val (.long r7), .second, .val (.ref b8), .val (.int v19), .val (.int v20), .val (.ref b21), .val (.ref b23), .unset] [(.int (1 : Int32))])) (fun tgt cont => ?_) ?_
    · refine XS.ifNo X23.here hx rfl (hb hby at_192) rfl (XT.i0_ne_f hc31) ?_
      refine XT.iconstV X23.here hx rfl (1 : Int32) (hb hby at_195) rfl ?_
      refine XS.goto X23.here hx rfl (pc0 := 196) (pc' := 200) rfl (hb hby at_196) (by decide) (by decide) ?_
      exact cont
    exact K26 (1 : Int32) (by simp only [if_pos hc31])
  ·
    refine own_go (B := T23.setTop (mkF m 200 #[.val (.int p1), .val (.int p2), .val (.int p3), .val (.int p4), .val (.long v1), .second, .val (.long v2), .second, .val (.long v3), .second, .val (.long v4), .second, .val (.long v5), .second, .val (.long r7), .second, .val (.ref b8), .val (.int v19), .val (.int v20), .val (.ref b21), .val (.ref b23), .unset] [(.int (0 : Int32))])) (fun tgt cont => ?_) ?_
    · refine XS.ifYes X23.here hx rfl (pc0 := 192) (pc' := 199) rfl (hb hby at_192) rfl (XT.i0_ne_t hc31) (by decide) (by decide) ?_
      refine XT.iconstV X23.here hx rfl (0 : Int32) (hb hby at_199) rfl ?_
      exact cont
    exact K26 (0 : Int32) (by simp only [if_neg hc31])
set_option maxRecDepth 65536 in
set_option maxHeartbeats 40000000 in
theorem comes_1 {Post : Tables → Env → Array Value → State → Outcome → State → Prop} (hpost : ∀ tb e args s v u, (limb_1_1.after args s (.returned v) u = true ∧ limb_1_2.after args s (.returned v) u = true ∧ True) → FrameEnd s (.returned v) u (Jvm.fieldLocs frame_1_writes args s ++ Jvm.arrayLocs frame_1_arrays args s ++ Jvm.staticLocs frame_1_statics s) 24 128 → Post tb e args s (.returned v) u) :
    ArmFor flags0 classFile x code maxLocals ret World_1 tables_1 room_1 Calls_1 rest_1 Pre_1 Post := by
  intro l hfl _ _ p e ha hc hk s m args below hf hA hF happ hP
  obtain ⟨hcalls, hrest, hpre⟩ := hP
  obtain ⟨-, -, -, hnamed, -, -, -, hat⟩ := (Spec.applies_iff hf).mp happ
  obtain ⟨hg, hn⟩ := and_e (Cond.before_iff.mp (show (Jvm.Cond.and given_1 narrow_1).before args s = true from hpre))
  obtain ⟨g0, gr0⟩ := and_e hg
  obtain ⟨ga0, gr1⟩ := and_e gr0
  obtain ⟨ga1, gr2⟩ := and_e gr1
  obtain ⟨ga2, gr3⟩ := and_e gr2
  obtain ⟨w0, w1, w2, w3, rfl⟩ : ∃ w0 w1 w2 w3 : Value, args = #[w0, w1, w2, w3] := by
    have hs : args.size = 4 := by simpa [Cond.value, given_1] using g0
    obtain ⟨L⟩ := args
    match L, hs with
    | [w0, w1, w2, w3], _ => exact ⟨w0, w1, w2, w3, rfl⟩
  have hw := fun d (hd : d ∈ tables_1) => atoms_spec (ws := Jvm.Cond.code x code maxLocals ret :: tables_1) hat d (List.mem_cons_of_mem _ hd)
  obtain ⟨i0, ei0⟩ := is_v ga0
  obtain rfl : w0 = (.int i0) := Option.some.inj ei0
  obtain ⟨i1, ei1⟩ := is_v ga1
  obtain rfl : w1 = (.int i1) := Option.some.inj ei1
  obtain ⟨i2, ei2⟩ := is_v ga2
  obtain rfl : w2 = (.int i2) := Option.some.inj ei2
  obtain ⟨i3, ei3⟩ := is_v gr3
  obtain rfl : w3 = (.int i3) := Option.some.inj ei3
  obtain ⟨n, o, h1, h2, h3, _, L, rfl, ⟨rfl, N⟩, hq⟩ := rm0 l s _ hw tables_1 i0 i1 i2 i3 s.heap s.heap.size (Nat.le_refl _) p e ha hc hk s m _ below hf ((Spec.applies_iff_loose hf).mp happ).1 ⟨rfl, State.Warmed39.refl s, rfl⟩ trivial
  refine ⟨n, _, h1, h2, h3, hpost _ _ _ _ _ _ ⟨Cond.after_iff.mpr rfl, Cond.after_iff.mpr (eq_i res_at (Term.int_eval (1)) rfl), trivial⟩ ⟨hq.1, hq.2.1, (hq.2.2.sift fun y hy => Or.inr (N y hy)).mono (by decide) (by decide)⟩⟩
theorem main_1_1 : Claimed_1_1 := comes_1 fun _ _ _ _ _ _ h hF => ⟨h.1, hF⟩
theorem main_1_2 : Claimed_1_2 := comes_1 fun _ _ _ _ _ _ h hF => ⟨h.2.1, hF⟩
end Jvm.Pilot.@@N@@
namespace Jvm.Pilot.@@N@@
open Jvm Jvm.ClassFile Sem Op Lib Jvm.Free Jvm.Stand Jvm.Pilot.@@N@@.Jvm.D
/-! MADE BY PROGRAM (witnessworld.py) out of the Statement's table words and the real class files: 10 classes; the members and pool entries that the words name. The judged class is class 1, her method 1. -/
namespace start1
open Jvm.ClassFile
def u (s : String) : CpInfo := .utf8 (stringToUtf16 s)
/-- a pool by its gaps: so many unusable entries, then the entry; so many at the end -/
def gap : Nat → List CpInfo → List CpInfo
  | 0, r => r
  | n + 1, r => .unusable :: gap n r
def poolList (es : List (Nat × CpInfo)) (last : Nat) : List CpInfo := es.foldr (fun e r => gap e.1 (e.2 :: r)) (gap last [])
def pool (es : List (Nat × CpInfo)) (last : Nat) : Array CpInfo := ⟨poolList es last⟩
def fileOf (pool : Array CpInfo) (this : Nat) (attrs : Array Attribute := #[]) (ms : Array MethodInfo := #[]) (fl : Nat := 33) (sup : Nat := 0) (ifs : Array Nat := #[]) (fds : Array FieldInfo := #[]) : ClassFile where
  minorVersion := 0
  majorVersion := 65
  constantPool := pool
  accessFlags := fl
  thisClass := this
  superClass := sup
  interfaces := ifs
  fields := fds
  methods := ms
  attributes := attrs
def plain (name : String) (sup : Option ClassId) : Class where
  name := name
  kind := .ordinary
  loader := none
  accessFlags := 33
  super := sup
  interfaces := #[]
  cf := none
  fields := #[]
  methods := #[]
  instanceTypes := #[]
  staticTypes := #[]
  resolved := #[]
  callSites := []
  init := .initialized
  statics := none
  mirror := none

def pool0 : Array CpInfo := pool [(5, u "<init>"), (0, u "()V"), (1, .class_ 10), (1, u "java/lang/Object")] 113

def k0m0 : Method := { name := "<init>", desc := "()V", sig := { parameters := [], returnType := none }, accessFlags := 1, code := none }
/-- java/lang/Object -/
def k0 : Class := { plain "java/lang/Object" none with
  accessFlags := 33
  interfaces := #[]
  cf := some (fileOf pool0 8 #[] #[{ accessFlags := 1, nameIndex := 5, descriptorIndex := 6, attributes := #[] }] 33 0 #[] #[])
  fields := #[]
  methods := #[k0m0]
  instanceTypes := #[]
  staticTypes := #[]
  resolved := Array.replicate 124 none
  statics := none }

def pool1 : Array CpInfo := pool [(2, .class_ 4), (1, u "java/lang/Object"), (0, u "<init>"), (0, u "()V"), (0, .long 4), (3, .long 2147483647), (1, .methodref 14 15), (0, .class_ 16), (0, .nameAndType 17 18), (0, u "java/lang/Math"), (0, u "min"), (0, u "(JJ)J"), (0, .long 2), (1, .long 3), (1, .methodref 24 25), (0, .class_ 26), (0, .nameAndType 27 28), (0, u "com/example/treebound/treebound/SortedSetsHoldsPinLaw"), (0, u "pick"), (0, u "([II)[I"), (0, .methodref 30 31), (0, .class_ 32), (0, .nameAndType 33 34), (0, u "com/example/treebound/treebound/SortedSets"), (0, u "holds"), (0, u "([I[I)Z"), (2, u "law"), (0, u "(IIII)Z")] 5

def k1m0 : Method := { name := "<init>", desc := "()V", sig := { parameters := [], returnType := none }, accessFlags := 2, code := none }
def k1c1 : Code := { maxStack := 6, maxLocals := 22, code := code, exceptionTable := #[], attributes := #[] }
def k1m1 : Method := { name := "law", desc := "(IIII)Z", sig := { parameters := [.int, .int, .int, .int], returnType := some .boolean }, accessFlags := 9, code := some k1c1 }
def k1c2 : Code := { maxStack := 5, maxLocals := 4, code := method_3_code, exceptionTable := #[], attributes := #[] }
def k1m2 : Method := { name := "pick", desc := "([II)[I", sig := { parameters := [(.array .int), .int], returnType := some (.array .int) }, accessFlags := 10, code := some k1c2 }
/-- com/example/treebound/treebound/SortedSetsHoldsPinLaw -/
def k1 : Class := { plain "com/example/treebound/treebound/SortedSetsHoldsPinLaw" (some 0) with
  accessFlags := 49
  interfaces := #[]
  cf := some (fileOf pool1 24 #[] #[{ accessFlags := 2, nameIndex := 5, descriptorIndex := 6, attributes := #[] }, { accessFlags := 9, nameIndex := 37, descriptorIndex := 38, attributes := #[] }, { accessFlags := 10, nameIndex := 27, descriptorIndex := 28, attributes := #[] }] 49 2 #[] #[])
  fields := #[]
  methods := #[k1m0, k1m1, k1m2]
  instanceTypes := #[]
  staticTypes := #[]
  resolved := Array.replicate 44 none
  statics := none }

def pool2 : Array CpInfo := pool [(1, .class_ 2), (0, u "java/lang/Math"), (1, .class_ 6), (1, u "java/lang/Object"), (0, u "<init>"), (0, u "()V"), (89, .class_ 100), (1, u "java/lang/Math$RandomNumberGeneratorHolder"), (20, u "(JJ)J"), (50, u "negativeZeroFloatBits"), (0, u "J"), (2, u "negativeZeroDoubleBits"), (24, u "min"), (43, u "$assertionsDisabled"), (0, u "Z"), (91, u "twoToTheDoubleScaleDown"), (0, u "D"), (4, u "twoToTheDoubleScaleUp"), (9, u "E"), (3, u "PI"), (2, u "TAU"), (2, u "DEGREES_TO_RADIANS"), (0, u "RADIANS_TO_DEGREES")] 94

def k2m0 : Method := { name := "<init>", desc := "()V", sig := { parameters := [], returnType := none }, accessFlags := 2, code := none }
def k2c1 : Code := { maxStack := 4, maxLocals := 4, code := jdk_29_method_70_code, exceptionTable := #[], attributes := #[] }
def k2m1 : Method := { name := "min", desc := "(JJ)J", sig := { parameters := [.long, .long], returnType := some .long }, accessFlags := 9, code := some k2c1 }
/-- java/lang/Math -/
def k2 : Class := { plain "java/lang/Math" (some 0) with
  accessFlags := 49
  interfaces := #[]
  cf := some (fileOf pool2 1 #[.nestMembers #[98]] #[{ accessFlags := 2, nameIndex := 7, descriptorIndex := 8, attributes := #[] }, { accessFlags := 9, nameIndex := 201, descriptorIndex := 121, attributes := #[] }] 49 4 #[] #[{ accessFlags := 25, nameIndex := 354, descriptorIndex := 339, attributes := #[] }, { accessFlags := 25, nameIndex := 358, descriptorIndex := 339, attributes := #[] }, { accessFlags := 25, nameIndex := 361, descriptorIndex := 339, attributes := #[] }, { accessFlags := 26, nameIndex := 364, descriptorIndex := 339, attributes := #[] }, { accessFlags := 26, nameIndex := 365, descriptorIndex := 339, attributes := #[] }, { accessFlags := 26, nameIndex := 172, descriptorIndex := 173, attributes := #[] }, { accessFlags := 26, nameIndex := 176, descriptorIndex := 173, attributes := #[] }, { accessFlags := 8, nameIndex := 344, descriptorIndex := 339, attributes := #[] }, { accessFlags := 8, nameIndex := 338, descriptorIndex := 339, attributes := #[] }, { accessFlags := 4120, nameIndex := 245, descriptorIndex := 246, attributes := #[] }])
  fields := #[{ name := "E", type := .double, accessFlags := 25, slot := 0, constantValue := 0 }, { name := "PI", type := .double, accessFlags := 25, slot := 1, constantValue := 0 }, { name := "TAU", type := .double, accessFlags := 25, slot := 2, constantValue := 0 }, { name := "DEGREES_TO_RADIANS", type := .double, accessFlags := 26, slot := 3, constantValue := 0 }, { name := "RADIANS_TO_DEGREES", type := .double, accessFlags := 26, slot := 4, constantValue := 0 }, { name := "negativeZeroFloatBits", type := .long, accessFlags := 26, slot := 5, constantValue := 0 }, { name := "negativeZeroDoubleBits", type := .long, accessFlags := 26, slot := 6, constantValue := 0 }, { name := "twoToTheDoubleScaleUp", type := .double, accessFlags := 8, slot := 7, constantValue := 0 }, { name := "twoToTheDoubleScaleDown", type := .double, accessFlags := 8, slot := 8, constantValue := 0 }, { name := "$assertionsDisabled", type := .boolean, accessFlags := 4120, slot := 9, constantValue := 0 }]
  methods := #[k2m0, k2m1]
  instanceTypes := #[]
  staticTypes := #[.double, .double, .double, .double, .double, .long, .long, .double, .double, .boolean]
  resolved := Array.replicate 460 none
  statics := none }

def pool3 : Array CpInfo := pool [(2, .class_ 4), (1, u "java/lang/Object"), (0, u "<init>"), (0, u "()V"), (6, .class_ 14), (0, u "com/example/treebound/treebound/SortedSets"), (2, u "holds"), (0, u "([I[I)Z")] 10

def k3m0 : Method := { name := "<init>", desc := "()V", sig := { parameters := [], returnType := none }, accessFlags := 2, code := none }
def k3c1 : Code := { maxStack := 2, maxLocals := 7, code := prog_44_method_2_code, exceptionTable := #[], attributes := #[] }
def k3m1 : Method := { name := "holds", desc := "([I[I)Z", sig := { parameters := [(.array .int), (.array .int)], returnType := some .boolean }, accessFlags := 8, code := some k3c1 }
/-- com/example/treebound/treebound/SortedSets -/
def k3 : Class := { plain "com/example/treebound/treebound/SortedSets" (some 0) with
  accessFlags := 48
  interfaces := #[]
  cf := some (fileOf pool3 13 #[] #[{ accessFlags := 2, nameIndex := 5, descriptorIndex := 6, attributes := #[] }, { accessFlags := 8, nameIndex := 17, descriptorIndex := 18, attributes := #[] }] 48 2 #[] #[])
  fields := #[]
  methods := #[k3m0, k3m1]
  instanceTypes := #[]
  staticTypes := #[]
  resolved := Array.replicate 29 none
  statics := none }

def pool4 : Array CpInfo := pool [(1, u "java/lang/Cloneable"), (0, .class_ 1), (0, u "java/lang/Object"), (0, .class_ 3)] 3

/-- java/lang/Cloneable -/
def k4 : Class := { plain "java/lang/Cloneable" (some 0) with
  accessFlags := 1537
  interfaces := #[]
  cf := some (fileOf pool4 2 #[] #[] 1537 4 #[] #[])
  fields := #[]
  methods := #[]
  instanceTypes := #[]
  staticTypes := #[]
  resolved := Array.replicate 8 none
  statics := none }

def pool5 : Array CpInfo := pool [(1, u "java/io/Serializable"), (0, .class_ 1), (0, u "java/lang/Object"), (0, .class_ 3)] 3

/-- java/io/Serializable -/
def k5 : Class := { plain "java/io/Serializable" (some 0) with
  accessFlags := 1537
  interfaces := #[]
  cf := some (fileOf pool5 2 #[] #[] 1537 4 #[] #[])
  fields := #[]
  methods := #[]
  instanceTypes := #[]
  staticTypes := #[]
  resolved := Array.replicate 8 none
  statics := none }

/-- the primitive byte -/
def k6 : Class := { plain "byte" none with kind := .primitive 'B', accessFlags := 0x411 }
/-- [B -/
def k7 : Class := { plain "[B" (some 0) with kind := .array 6 .byte, interfaces := #[4, 5], accessFlags := 1041 }

/-- the primitive int -/
def k8 : Class := { plain "int" none with kind := .primitive 'I', accessFlags := 0x411 }
/-- [I -/
def k9 : Class := { plain "[I" (some 0) with kind := .array 8 .int, interfaces := #[4, 5], accessFlags := 1041 }

def heap : Heap := #[]
def classes : Array Class := #[k0, k1, k2, k3, k4, k5, k6, k7, k8, k9]
def interned : List (Array UInt16 × Addr) := []
def slotsUsed : Nat := 0
def theMethod : MethodId := ⟨1, 1⟩
def args0 : Array Value := #[.int 5, .int 300, .int 7, .int 8]
def aboutOver (below : List Frame) : State where
  vm := { classes := classes, interned := interned.toArray }
  heap := heap
  slotsUsed := slotsUsed
  threads := #[{ frames := .invoking theMethod args0 :: below }]
def below0 : List Frame := [.native { method := ⟨0, 0⟩, args := #[] }]
def about1 : State := aboutOver below0
def p0 : Program := .bare "" "" ""
def e0 : Env := launch0.env 0 0 0
theorem w_frames : about1.frames = Frame.invoking theMethod args0 :: below0 := rfl
set_option maxRecDepth 65536 in
theorem w_args : argsFit about1.vm theMethod args0 = true := by decide +kernel
set_option maxRecDepth 65536 in
theorem w_heap : heapFits about1 = true := by decide +kernel
set_option maxRecDepth 65536 in
theorem w_runnable : about1.curStatus? = some .runnable := by decide +kernel
set_option maxRecDepth 65536 in
theorem w_alone : about1.alone = true := by decide +kernel
set_option maxRecDepth 65536 in
theorem w_named : about1.methodNamed? x = some theMethod := by decide +kernel
set_option maxRecDepth 65536 in
theorem w_hears : about1.hears theMethod below0 = true := by decide +kernel
set_option maxRecDepth 65536 in
theorem w_ripe : about1.ripe theMethod args0 below0 = true := by decide +kernel
theorem w_running : about1.status = .running := rfl
set_option maxRecDepth 65536 in
theorem w_room : about1.hasRoom e0.platform room_1 = true :=
  launch0.hasRoom_least _ room_1 (by decide +kernel) (by decide +kernel) (by decide +kernel) (by decide +kernel) (by decide +kernel) (by decide +kernel)
theorem allAtoms_all (ts : List Jvm.Cond) (a : Array Jvm.Value) (st : Jvm.State) : (allAtoms ts).before a st = ts.all (fun c => c.before a st) := by
  induction ts with
  | nil => rfl
  | cons c t ih =>
    show (Jvm.Cond.and c (allAtoms t)).before a st = _
    rw [Jvm.Cond.before_and, ih, List.all_cons]
def words1 : List Jvm.Cond := Jvm.Cond.code x code maxLocals ret :: tables_1
/-- a 'code' word, met by the world's own term for the bytes: nothing is compared byte by byte -/
theorem code_word {y : MethodName} {bytes : ByteArray} {mx : Nat} {rt : Option FieldType} {a : Array Value} {s : State} {m : MethodId} {meth : Method} {c : Code} (h1 : s.methodNamed? y = some m) (h2 : s.vm.method? m = some meth) (h3 : meth.code = some c) (h4 : c.code = bytes)
    (h5 : (c.maxLocals == mx && c.exceptionTable.isEmpty && decide (c.maxStack ≤ mostOperands) && decide (meth.sig.returnType = rt) && !meth.locks && decide (parseMethodDescriptor y.desc = some meth.sig)) = true) : (Jvm.Cond.code y bytes mx rt).before a s = true := by
  simp only [Bool.and_eq_true, beq_iff_eq, Bool.not_eq_true', decide_eq_true_eq] at h5
  obtain ⟨⟨⟨⟨⟨g1, g2⟩, g3⟩, g4⟩, g5⟩, g6⟩ := h5
  simp [Cond.before, Cond.holds, Cond.value, h1, h2, h3, h4, g1, g2, g3, g4, g5, g6]
def isCode : Jvm.Cond → Bool
  | .code _ _ _ _ => true
  | _ => false
theorem all_split {L : List Jvm.Cond} {P : Jvm.Cond → Bool} (h1 : L.all (fun c => isCode c || P c) = true) (h2 : ∀ c ∈ L.filter isCode, P c = true) : L.all P = true := by
  refine List.all_eq_true.mpr fun c hc => ?_
  have h := List.all_eq_true.mp h1 c hc
  rcases Bool.eq_false_or_eq_true (isCode c) with hi | hi
  · exact h2 c (List.mem_filter.mpr ⟨hc, hi⟩)
  · simpa [hi] using h
set_option maxRecDepth 65536 in
theorem w_c0 : (Jvm.Cond.code x code maxLocals ret).before args0 about1 = true := code_word (m := ⟨1, 1⟩) (meth := k1m1) (c := k1c1) (by decide +kernel) rfl rfl rfl (by decide +kernel)
set_option maxRecDepth 65536 in
theorem w_c1 : (Jvm.Cond.code ({ cls := "java/lang/Math", name := "min", desc := "(JJ)J" } : Jvm.MethodName) jdk_29_method_70_code (4 : Nat) (Option.some Jvm.ClassFile.FieldType.long)).before args0 about1 = true := code_word (m := ⟨2, 1⟩) (meth := k2m1) (c := k2c1) (by decide +kernel) rfl rfl rfl (by decide +kernel)
set_option maxRecDepth 65536 in
theorem w_c2 : (Jvm.Cond.code ({ cls := "com/example/treebound/treebound/SortedSetsHoldsPinLaw", name := "pick", desc := "([II)[I" } : Jvm.MethodName) method_3_code (4 : Nat) (Option.some (Jvm.ClassFile.FieldType.array Jvm.ClassFile.FieldType.int))).before args0 about1 = true := code_word (m := ⟨1, 2⟩) (meth := k1m2) (c := k1c2) (by decide +kernel) rfl rfl rfl (by decide +kernel)
set_option maxRecDepth 65536 in
theorem w_c3 : (Jvm.Cond.code ({ cls := "com/example/treebound/treebound/SortedSets", name := "holds", desc := "([I[I)Z" } : Jvm.MethodName) prog_44_method_2_code (7 : Nat) (Option.some Jvm.ClassFile.FieldType.boolean)).before args0 about1 = true := code_word (m := ⟨3, 1⟩) (meth := k3m1) (c := k3c1) (by decide +kernel) rfl rfl rfl (by decide +kernel)
def codes1 : List Jvm.Cond := [Jvm.Cond.code x code maxLocals ret, Jvm.Cond.code ({ cls := "java/lang/Math", name := "min", desc := "(JJ)J" } : Jvm.MethodName) jdk_29_method_70_code (4 : Nat) (Option.some Jvm.ClassFile.FieldType.long), Jvm.Cond.code ({ cls := "com/example/treebound/treebound/SortedSetsHoldsPinLaw", name := "pick", desc := "([II)[I" } : Jvm.MethodName) method_3_code (4 : Nat) (Option.some (Jvm.ClassFile.FieldType.array Jvm.ClassFile.FieldType.int)), Jvm.Cond.code ({ cls := "com/example/treebound/treebound/SortedSets", name := "holds", desc := "([I[I)Z" } : Jvm.MethodName) prog_44_method_2_code (7 : Nat) (Option.some Jvm.ClassFile.FieldType.boolean)]
set_option maxRecDepth 65536 in
theorem codes_eq : words1.filter isCode = codes1 := rfl
theorem w_codes : ∀ c ∈ words1.filter isCode, c.before args0 about1 = true := by
  rw [codes_eq]
  intro c hc
  simp only [codes1, List.mem_cons, List.not_mem_nil, or_false] at hc
  rcases hc with rfl | rfl | rfl | rfl
  · exact w_c0
  · exact w_c1
  · exact w_c2
  · exact w_c3
set_option maxRecDepth 65536 in
theorem w_t1 : words1.all (fun c => isCode c || c.before args0 about1) = true := by decide +kernel
theorem w_tables : (allAtoms (Jvm.Cond.code x code maxLocals ret :: tables_1)).before args0 about1 = true := by
  rw [allAtoms_all]
  show words1.all (fun c => c.before args0 about1) = true
  refine all_split ?_ w_codes
  rw [w_t1]
set_option maxRecDepth 65536 in
theorem w_case : (Jvm.Cond.and given_1 narrow_1).before args0 about1 = true := by decide +kernel
theorem w_applies : (headSpec (Jvm.Cond.code x code maxLocals ret :: tables_1) room_1).applies x e0.platform about1 = true :=
  (Spec.applies_iff w_frames).mpr ⟨w_running, w_runnable, w_alone, w_named, w_hears, w_ripe, w_room, w_tables⟩
theorem atStart : AtStart classFile x code maxLocals ret World_1 tables_1 room_1 Calls_1 rest_1 Pre_1 launch0 p0 e0 about1 theMethod args0 below0 :=
  ⟨lists_1, trivial, launch0.admits_env _ _ _, launch0.least_env, fairChoices_fair.cas, fairChoices_fair.clock, w_frames, w_args, w_heap, w_applies, trivial, trivial, w_case⟩
end start1
theorem witness_1 : WitnessClaimed_1 := ⟨start1.p0, start1.e0, start1.about1, start1.theMethod, start1.args0, start1.below0, start1.atStart⟩
end Jvm.Pilot.@@N@@
