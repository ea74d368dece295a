import JvmDerived
import JvmDerived.Pilot.@@N@@Statement
import JvmDerived.Pilot.@@N@@Code
set_option linter.unusedVariables false
set_option linter.unusedSimpArgs false
namespace Jvm.RoadKit
open Sem ClassFile Op Lib Jvm.Stand Jvm.Free Jvm.LawKit
section New
variable {p : Program} {l : Launch} {e : Env} {R : Room} {s : State} {m : MethodId} {args : Array Value} {below : List Frame} {meth : Method} {c : Code} {T : State} {locs : List Loc} {cells slots : Nat}
theorem retI (X : Stand p l e R s m args below meth c T locs cells slots) (hx : p.tables.exec = Jvm.exec) {pc : Nat} {Ls : Array Slot} {z : Int32} {rest : List Value} (hret : meth.sig.returnType = some .int) (hd : decode c.code pc = .ok (.ireturn, 1)) {fs : List Frame}
    (hl : ∀ (f : JFrame) (acts : List Action), f.method = m → f.locked = none → f.entered = [] → (doReturn e (T.setTop f) acts (some (.int z))).1 = T.setFrames fs) : Steps p.tables e below (T.setTop (mkF m pc Ls (.int z :: rest))) (T.setFrames fs) := by
  have hm' : T.vm.method? m = some meth := X.method'
  have hn : narrow .int (.int z) = .int z := rfl
  show Steps p.tables e below (T.setTop { method := m, pc := pc, locals := Ls, stack := _ :: rest, locked := none }) _
  jvm_step X.here [X.here.top, hx, hd, hm', hret, hn]
  first | (intro acts; rw [hl _ acts rfl rfl rfl]) | rw [hl _ _ rfl rfl rfl]
  exact Steps.refl _
end New
end Jvm.RoadKit
namespace Jvm.Pilot.@@N@@
open Jvm Jvm.ClassFile Sem Op Lib Jvm.Free Jvm.Stand Jvm.LawKit Jvm.RoadKit Bundle Jvm.Pilot.@@N@@.Jvm.D
/-! my own layer: all goals of a walk have one shape -/
section Own
variable {p : Program} {l : Launch} {e : Env} {R : Room} {s : State} {m : MethodId} {args : Array Value} {below : List Frame} {meth : Method} {c : Code} {T : State} {locs : List Loc} {cells slots : Nat} {Q : Option Value → Heap → List Loc → Prop} {nc ns : Nat} {A B : State}
/-- from A the method comes to its end, with Q of what it returns, of the heap and of the places written -/
def own_Go (p : Program) (e : Env) (below : List Frame) (s : State) (Q : Option Value → Heap → List Loc → Prop) (nc ns : Nat) (A : State) : Prop :=
  ∃ s₂ o, Steps p.tables e below A s₂ ∧ s₂.status = .running ∧ Ended s₂ below o ∧ ∃ v L, o = .returned v ∧ Q v s₂.heap L ∧ FrameEnd s o s₂ L nc ns
theorem own_go (k : ∀ t, Steps p.tables e below B t → Steps p.tables e below A t) (h : own_Go p e below s Q nc ns B) : own_Go p e below s Q nc ns A := by
  obtain ⟨t, o, h1, h2⟩ := h
  exact ⟨t, o, k t h1, h2⟩
theorem own_end (X : Stand p l e R s m args below meth c T locs cells slots) {v : Option Value} (hv : meth.sig.returnType = none → v = none) (hlk : meth.locks = false) (hq : Q v T.heap locs) (hc : cells ≤ nc) (hs : slots ≤ ns)
    (hst : ∀ fs, (∀ (f : JFrame) (acts : List Action), f.method = m → f.locked = none → f.entered = [] → (doReturn e (T.setTop f) acts v).1 = T.setFrames fs) → Steps p.tables e below A (T.setFrames fs)) : own_Go p e below s Q nc ns A := by
  obtain ⟨fs, hr, hrun, hended, hW, hsame⟩ := X.leave (v := v) hv hlk
  exact ⟨_, _, hst fs hr, hrun, hended, v, locs, rfl, hq, ⟨_, rfl⟩, hW, hsame.mono hc hs⟩
theorem own_wide {cells' slots' : Nat} (X : Stand p l e R s m args below meth c T locs cells slots) (hc : cells ≤ cells') (hs : slots ≤ slots') : Stand p l e R s m args below meth c T locs cells' slots' :=
  { X with same := X.same.mono hc hs }
theorem own_lrem {tb : Tables} [Ours tb] {target : State} {g : JFrame} (h : At T m c below) (hx : tb.exec = Jvm.exec) (hg : g.method = m) {x y : Int64} {rest : List Value} (hd : decode c.code g.pc = .ok (.lrem, 1)) (hs : g.stack = .long y :: .long x :: rest) (hy : y ≠ 0)
    (hr : Steps tb e below (T.setTop { g with pc := g.pc + 1, stack := .long (x % y) :: rest }) target) : Steps tb e below (T.setTop g) target :=
  XS.lrem h hx hg hd hs hy (by rw [lrem_mod]; exact hr)
end Own
section Own2
variable {Z s : State} {a0 args : Array Value} {h : Heap} {a b : Addr} {C : String} {c : Cell} {ty : FieldType}
theorem own_selP {y : MethodName} {n : Nat} (hZ : Z.Warmed39 s.vm) (wi : (Jvm.Cond.instantiable y.cls n).before a0 Z = true) (w2 : (Jvm.Cond.instanceMethod y).before a0 Z = true) (w3 : (Jvm.Cond.privateMethod y).before a0 Z = true)
    (hy : y.cls ≠ "java/lang/invoke/MethodHandle" ∧ y.cls ≠ "java/lang/invoke/VarHandle" := by decide) : (Jvm.Cond.selects y.cls y y).before args s = true := by
  have wi' : (Jvm.Cond.instantiable y.cls n).before args s = true := mvT hZ wi
  obtain ⟨c, k, h1, h2, -, h4, -⟩ := Cond.instantiable_spec wi'
  have h5 : k.isInterface = false := by
    cases hk : k.isInterface
    · rfl
    · rw [hk] at h4; simp at h4
  exact selects_self_of_private h1 h2 h5 (Cond.privateMethod_at (mvP hZ w3 (args := #[]))) (mvT hZ w2) hy
theorem own_neA {n : Nat} (F : Exa Z h a C) (wi : (Jvm.Cond.instantiable C n).before a0 Z = true) (G : ∃ c, Arr Z h b c ty) : a ≠ b := by
  obtain ⟨c, G⟩ := G
  exact ne_arr F wi G
end Own2
/-! small naturals as ints -/
theorem own_toI {n : Nat} (h : n < 2147483648) : (Int32.ofNat n).toInt = n := Int32.toInt_ofNat_of_lt h
theorem own_toN {n : Nat} (h : n < 2147483648) : (Int32.ofNat n).toNatClampNeg = n := by
  rw [Int32.toNatClampNeg, own_toI h]; omega
theorem own_one {i : Nat} : Int32.ofNat i + (1 : Int32) = Int32.ofNat (i + 1) := (Int32.ofNat_add i 1).symm
theorem own_inb {j : Int32} {n : Nat} (h0 : ¬ j < 0) (h : j < Int32.ofNat n) (hn : n < 2147483648) : ¬ j < 0 ∧ j.toNatClampNeg < n := by
  refine ⟨h0, ?_⟩
  rw [Int32.lt_iff_toInt_lt, own_toI hn] at h
  rw [Int32.lt_iff_toInt_lt] at h0
  have e0 : (0 : Int32).toInt = 0 := rfl
  rw [Int32.toNatClampNeg]; omega
theorem own_inN {i n : Nat} (h : i < n) (hn : n < 2147483648) : ¬ Int32.ofNat i < 0 ∧ (Int32.ofNat i).toNatClampNeg < n := by
  rw [own_toN (by omega), Int32.lt_iff_toInt_lt, own_toI (by omega)]
  have e0 : (0 : Int32).toInt = 0 := rfl
  omega
theorem own_ofNat_lt {i n : Nat} (h : Int32.ofNat i < Int32.ofNat n) (hn : n < 2147483648) (hi : i ≤ n) : i < n := by
  rw [Int32.lt_iff_toInt_lt, own_toI hn, own_toI (by omega)] at h; omega
theorem own_ofNat_nlt {i n : Nat} (h : ¬ Int32.ofNat i < Int32.ofNat n) (hn : n < 2147483648) (hi : i ≤ n) : n ≤ i := by
  rw [Int32.lt_iff_toInt_lt, own_toI hn, own_toI (by omega)] at h; omega
theorem own_drop (vs : List Int32) {i : Nat} (h : i < vs.length) : vs.drop i = vs.getD i 0 :: vs.drop (i + 1) := by
  rw [List.drop_eq_getElem_cons h, List.getD_eq_getElem?_getD, List.getElem?_eq_getElem h]; rfl
theorem own_ofNat_inj {i n : Nat} (h : Int32.ofNat i = Int32.ofNat n) (hn : n < 2147483648) (hi : i ≤ n) : i = n := by
  have q := congrArg Int32.toInt h
  rw [own_toI hn, own_toI (by omega)] at q; omega

/-! arrays as lists -/
section OwnLA
variable {p : Program} {l : Launch} {e : Env} {R : Room} {s : State} {m : MethodId} {args : Array Value} {below : List Frame} {meth : Method} {c : Code} {T : State} {locs : List Loc} {cells slots : Nat} {Z : State} {a0 : Array Value} {h h' : Heap} {a b : Addr} {ws : List Addr} {sl : Nat} {v : Value} {vs : List Int64}
def own_LA (Z : State) (h : Heap) (a : Addr) (vs : List Int64) : Prop := ∃ c : Cell, Arr Z h a c .long ∧ c.slots.toList = vs.map Value.long ∧ vs.length < 2147483648
theorem own_LA.lt (F : own_LA Z h a vs) : a < h.size := by obtain ⟨c, A, -⟩ := F; exact A.lt
theorem own_LA.arr (F : own_LA Z h a vs) : ∃ c, Arr Z h a c .long := by obtain ⟨c, A, -⟩ := F; exact ⟨c, A⟩
theorem own_LA.ext (F : own_LA Z h a vs) (E : Ext h h') : own_LA Z h' a vs := by obtain ⟨c, A, r⟩ := F; exact ⟨c, A.ext E, r⟩
theorem own_LA.other (F : own_LA Z h b vs) (W : Wr h h' a sl v) (q : b ≠ a) : own_LA Z h' b vs := by obtain ⟨c, A, r⟩ := F; exact ⟨c, A.other W q, r⟩
theorem own_LA.keep (F : own_LA Z h a vs) (K : Keep h h' ws) (q : a ∉ ws) : own_LA Z h' a vs := by obtain ⟨c, A, r⟩ := F; exact ⟨c, ⟨K.2.1 a c A.1 q, A.2⟩, r⟩
theorem own_LA.cong {vs' : List Int64} (F : own_LA Z h a vs) (q : vs = vs') : own_LA Z h a vs' := q ▸ F
theorem own_LA.small (F : own_LA Z h a vs) : vs.length < 2147483648 := by obtain ⟨c, A, q, r⟩ := F; exact r
theorem own_LA.new {k : ClassId} {n : Int32} (A : Arr Z h a (newA k .long n) .long) (q : ¬ n < 0) : own_LA Z h a (List.replicate n.toNatClampNeg 0) := by
  refine ⟨_, A, ?_, ?_⟩
  · simp [newA, defaultValue]
  · rw [List.length_replicate]; exact (back32 q).2
theorem own_LA_in {c : Cell} {j : Int32} (S : c.slots.toList = vs.map Value.long) (hj : ¬ j < 0 ∧ j.toNatClampNeg < vs.length) : ¬ (j < 0 ∨ c.slots.size ≤ j.toNatClampNeg) := by
  have e := congrArg List.length S
  rw [List.length_map, Array.length_toList] at e
  rintro (q | q)
  · exact hj.1 q
  · have := hj.2; omega
/-- the load -/
theorem own_ldLA (X : Stand p l e R s m args below meth c T locs cells slots) (hx : p.tables.exec = Jvm.exec) (hZ : Z.Warmed39 s.vm) (eT : T.heap = h) (A : own_LA Z h a vs) {j : Int32} (hj : ¬ j < 0 ∧ j.toNatClampNeg < vs.length)
    {g : JFrame} (hg : g.method = m) {rest : List Value} (hs : g.stack = .int j :: .ref a :: rest) (hd : decode c.code g.pc = .ok (.laload, 1)) {target : State}
    (hr : Steps p.tables e below (T.setTop { g with pc := g.pc + 1, stack := Value.long (vs.getD j.toNatClampNeg 0) :: rest }) target) : Steps p.tables e below (T.setTop g) target := by
  obtain ⟨cl, Ar, S, -⟩ := A
  refine X.laload hx (j := j) (v := Value.long (vs.getD j.toNatClampNeg 0)) (by rw [eT]; exact Ar.1) (State.isArrayOf_alike hZ.alike Ar.2.1) Ar.2.2 (own_LA_in S hj) ?_ (g := g) hg hs hd _ hr
  rw [← Array.getElem?_toList, S, List.getElem?_map, List.getD_eq_getElem?_getD, List.getElem?_eq_getElem hj.2]
  rfl
/-- the length -/
theorem own_lenLA (X : Stand p l e R s m args below meth c T locs cells slots) (hx : p.tables.exec = Jvm.exec) (hZ : Z.Warmed39 s.vm) (eT : T.heap = h) (A : own_LA Z h a vs)
    {g : JFrame} (hg : g.method = m) {rest : List Value} (hs : g.stack = .ref a :: rest) (hd : decode c.code g.pc = .ok (.arraylength, 1)) {target : State}
    (hr : Steps p.tables e below (T.setTop { g with pc := g.pc + 1, stack := .int (Int32.ofNat vs.length) :: rest }) target) : Steps p.tables e below (T.setTop g) target := by
  obtain ⟨cl, Ar, S, -⟩ := A
  refine X.arraylength hx (by rw [eT]; exact Ar.1) (State.isArrayOf_alike hZ.alike Ar.2.1) (g := g) hg hs hd _ ?_
  have e := congrArg List.length S
  rw [List.length_map, Array.length_toList] at e
  rw [e]; exact hr
/-- the store -/
theorem own_stLA (X : Stand p l e R s m args below meth c T locs cells slots) (hx : p.tables.exec = Jvm.exec) (hZ : Z.Warmed39 s.vm) (eT : T.heap = h) (A : own_LA Z h a vs) {j : Int32} {x : Int64} (hj : ¬ j < 0 ∧ j.toNatClampNeg < vs.length)
    {g : JFrame} (hg : g.method = m) {rest : List Value} (hs : g.stack = Value.long x :: .int j :: .ref a :: rest) (hd : decode c.code g.pc = .ok (.lastore, 1)) :
    ∃ T' h', Stand p l e R s m args below meth c T' (locs ++ [⟨a, j.toNatClampNeg⟩]) cells slots ∧ T'.heap = h' ∧ Wr h h' a j.toNatClampNeg (Value.long x) ∧ own_LA Z h' a (vs.set j.toNatClampNeg x) ∧
      ∀ target, Steps p.tables e below (T'.setTop { g with pc := g.pc + 1, stack := rest }) target → Steps p.tables e below (T.setTop g) target := by
  obtain ⟨cl, Ar, S, B⟩ := A
  obtain ⟨T', h', X', e', W', st'⟩ := stJ X hx hZ eT Ar (own_LA_in S hj) (g := g) hg hs hd
  refine ⟨T', h', X', e', W', ⟨_, Ar.same W', ?_, ?_⟩, st'⟩
  · simp [Cell.setSlot, S]
  · rw [List.length_set]; exact B
theorem own_ldLAn (X : Stand p l e R s m args below meth c T locs cells slots) (hx : p.tables.exec = Jvm.exec) (hZ : Z.Warmed39 s.vm) (eT : T.heap = h) (A : own_LA Z h a vs) {i : Nat} (hi : i < vs.length)
    {g : JFrame} (hg : g.method = m) {rest : List Value} (hs : g.stack = .int (Int32.ofNat i) :: .ref a :: rest) (hd : decode c.code g.pc = .ok (.laload, 1)) {target : State}
    (hr : Steps p.tables e below (T.setTop { g with pc := g.pc + 1, stack := Value.long (vs.getD i 0) :: rest }) target) : Steps p.tables e below (T.setTop g) target := by
  have q := A.small
  refine own_ldLA X hx hZ eT A (own_inN hi q) hg hs hd ?_
  rw [own_toN (Nat.lt_trans hi q)]; exact hr
theorem own_stLAn (X : Stand p l e R s m args below meth c T locs cells slots) (hx : p.tables.exec = Jvm.exec) (hZ : Z.Warmed39 s.vm) (eT : T.heap = h) (A : own_LA Z h a vs) {i : Nat} {x : Int64} (hi : i < vs.length)
    {g : JFrame} (hg : g.method = m) {rest : List Value} (hs : g.stack = Value.long x :: .int (Int32.ofNat i) :: .ref a :: rest) (hd : decode c.code g.pc = .ok (.lastore, 1)) :
    ∃ T' h', Stand p l e R s m args below meth c T' (locs ++ [⟨a, i⟩]) cells slots ∧ T'.heap = h' ∧ Wr h h' a i (Value.long x) ∧ own_LA Z h' a (vs.set i x) ∧
      ∀ target, Steps p.tables e below (T'.setTop { g with pc := g.pc + 1, stack := rest }) target → Steps p.tables e below (T.setTop g) target := by
  have q := A.small
  have r := own_stLA X hx hZ eT A (x := x) (own_inN hi q) hg hs hd
  rw [own_toN (Nat.lt_trans hi q)] at r
  exact r
/-- a new one -/
theorem own_newLA (X : Stand p l e R s m args below meth c T locs cells slots) (hx : p.tables.exec = Jvm.exec) (hZ : Z.Warmed39 s.vm) (w : (Jvm.Cond.arrayClass .long).before a0 Z = true) (eT : T.heap = h) {g : JFrame} (hg : g.method = m) (hd : decode c.code g.pc = .ok (.newarray .long, 2)) {n : Int32} {rest : List Value} (hs : g.stack = .int n :: rest)
    (hn : ¬ n < 0) {cap : Nat} (hcap : n.toNatClampNeg ≤ cap) (hb : cap * 8 ≤ 536870912) (hc : cells + 1 ≤ R.cells) (hl : slots + cap ≤ R.slots) :
    ∃ T' h', Stand p l e R s m args below meth c T' locs (cells + 1) (slots + cap) ∧ T'.heap = h' ∧ Ext h h' ∧ own_LA Z h' h.size (List.replicate n.toNatClampNeg 0) ∧ Exa Z h' h.size "[J" ∧
      ∀ target, Steps p.tables e below (T'.setTop { g with pc := g.pc + 2, stack := .ref h.size :: rest }) target → Steps p.tables e below (T.setTop g) target := by
  obtain ⟨T', h', k, X', e', E', A', F', st'⟩ := newPE X hx hZ (aty := .long) w eT hg hd hs hn hcap hb hc hl (ad := "[J") (by decide)
  exact ⟨T', h', X', e', E', own_LA.new A' hn, F', st'⟩
end OwnLA

def own_fm (p1 : Int64) (p2 : Int64) : Int64 := if (p1 ^^^ p2) < (0 : Int64) then if (p1 % p2) = (0 : Int64) then (p1 % p2) else ((p1 % p2) + p2) else (p1 % p2)
def Q_rm17 (Z : State) (p1 : Int64) (p2 : Int64) (h0 : Heap) (n0 : Nat) (v : Option Value) (h : Heap) (L : List Loc) : Prop := v = some (.long (own_fm p1 p2)) ∧ Fr n0 L ∧ h = h0
theorem d17_0 : decode jdk_29_method_52_code 0 = .ok (.lload_n 0, 1) := by decide +kernel
theorem d17_1 : decode jdk_29_method_52_code 1 = .ok (.lload_n 2, 1) := by decide +kernel
theorem d17_2 : decode jdk_29_method_52_code 2 = .ok (.lrem, 1) := by decide +kernel
theorem d17_3 : decode jdk_29_method_52_code 3 = .ok (.lstore 4, 2) := by decide +kernel
theorem d17_5 : decode jdk_29_method_52_code 5 = .ok (.lload_n 0, 1) := by decide +kernel
theorem d17_6 : decode jdk_29_method_52_code 6 = .ok (.lload_n 2, 1) := by decide +kernel
theorem d17_7 : decode jdk_29_method_52_code 7 = .ok (.lxor, 1) := by decide +kernel
theorem d17_8 : decode jdk_29_method_52_code 8 = .ok (.lconst 0, 1) := by decide +kernel
theorem d17_9 : decode jdk_29_method_52_code 9 = .ok (.lcmp, 1) := by decide +kernel
theorem d17_10 : decode jdk_29_method_52_code 10 = .ok (.ifCond .ge 15, 3) := by decide +kernel
theorem d17_13 : decode jdk_29_method_52_code 13 = .ok (.lload 4, 2) := by decide +kernel
theorem d17_15 : decode jdk_29_method_52_code 15 = .ok (.lconst 0, 1) := by decide +kernel
theorem d17_16 : decode jdk_29_method_52_code 16 = .ok (.lcmp, 1) := by decide +kernel
theorem d17_17 : decode jdk_29_method_52_code 17 = .ok (.ifCond .eq 8, 3) := by decide +kernel
theorem d17_20 : decode jdk_29_method_52_code 20 = .ok (.lload 4, 2) := by decide +kernel
theorem d17_22 : decode jdk_29_method_52_code 22 = .ok (.lload_n 2, 1) := by decide +kernel
theorem d17_23 : decode jdk_29_method_52_code 23 = .ok (.ladd, 1) := by decide +kernel
theorem d17_24 : decode jdk_29_method_52_code 24 = .ok (.lreturn, 1) := by decide +kernel
theorem d17_25 : decode jdk_29_method_52_code 25 = .ok (.lload 4, 2) := by decide +kernel
theorem d17_27 : decode jdk_29_method_52_code 27 = .ok (.lreturn, 1) := by decide +kernel
set_option maxRecDepth 65536 in
set_option maxHeartbeats 40000000 in
theorem rm17 (l : Launch) (Z : State) (a0 : Array Value) (hw : ∀ d ∈ tables_1, d.before a0 Z = true) (ws : List Jvm.Cond) (p1 : Int64) (p2 : Int64) (h0 : Heap) (n0 : Nat) (Z0 : n0 ≤ h0.size) (hnz : p2 ≠ 0) :
    MetFree l (⟨"java/lang/Math", "floorMod", "(JJ)J"⟩ : MethodName) (head1 (Jvm.Cond.code (⟨"java/lang/Math", "floorMod", "(JJ)J"⟩ : MethodName) jdk_29_method_52_code 6 (some .long) :: ws) ({ frames := 0, cells := 0, slots := 0, locals := 0 } : Room)) (fun aa U => aa = #[(.long p1), (.long p2)] ∧ Z.Warmed39 U.vm ∧ U.heap = h0) (fun _ _ _ _ _ => True) (fun _ U o U' => ∃ v L, o = .returned v ∧ Q_rm17 Z p1 p2 h0 n0 v U'.heap L ∧ FrameEnd U o U' L ({ frames := 0, cells := 0, slots := 0, locals := 0 } : Room).cells ({ frames := 0, cells := 0, slots := 0, locals := 0 } : Room).slots) := by
  refine MetFree.of_bodySF (Jvm.Free.JP.mathPlain rfl (by decide +kernel)) hisR ?_
  intro p e s m args below meth c s₁ Bd hml0 hP hK
  obtain ⟨rfl, hZ, hh⟩ := hP
  have hx := Bd.exec
  have hby := Bd.bytes
  have hml : c.maxLocals = 6 := hml0
  have hlk : meth.locks = false := BodyLoose.notSynchronized Bd
  have hown : s.vm.findClass "java/lang/Math" = some m.cls := findClass_of_methodNamed Bd.named
  have hnm := (name_of_methodNamed Bd.named Bd.method).1
  have X0 : Stand p l e ({ frames := 0, cells := 0, slots := 0, locals := 0 } : Room) s m #[(.long p1), (.long p2)] below meth c s₁ [] 0 0 := Stand.of_body Bd
  have e0 : s₁.heap = h0 := by rw [← hh, Bd.state]; rfl
  have N0 := Fr.nil n0
  show own_Go p e below s (Q_rm17 Z p1 p2 h0 n0) 0 0 (s₁.setTop (entryFrame m #[(.long p1), (.long p2)] 6))
  refine own_go (B := s₁.setTop (mkF m 0 #[.val (.long p1), .second, .val (.long p2), .second, .unset, .unset] [])) (fun tgt cont => (XT.entry rfl).trans cont) ?_
  refine own_go (B := s₁.setTop (mkF m 10 #[.val (.long p1), .second, .val (.long p2), .second, .val (.long (p1 % p2)), .second] [(.int (XT.cmpL (p1 ^^^ p2) (0 : Int64)))])) (fun tgt cont => ?_) ?_
  · refine XS.lloadN X0.here hx rfl (hb hby d17_0) rfl ?_
    refine XS.lloadN X0.here hx rfl (hb hby d17_1) rfl ?_
    refine own_lrem X0.here hx rfl (hb hby d17_2) rfl hnz ?_
    refine XS.lstore X0.here hx rfl (hb hby d17_3) rfl (l' := #[.val (.long p1), .second, .val (.long p2), .second, .val (.long (p1 % p2)), .second]) rfl ?_
    refine XS.lloadN X0.here hx rfl (hb hby d17_5) rfl ?_
    refine XS.lloadN X0.here hx rfl (hb hby d17_6) rfl ?_
    refine XS.lxor X0.here hx rfl (hb hby d17_7) rfl ?_
    refine XT.lconstV X0.here hx rfl (0 : Int64) (hb hby d17_8) rfl ?_
    refine XT.lcmp X0.here hx rfl (hb hby d17_9) rfl ?_
    exact cont
  by_cases hc1 : (p1 ^^^ p2) < (0 : Int64)
  ·
    refine own_go (B := s₁.setTop (mkF m 17 #[.val (.long p1), .second, .val (.long p2), .second, .val (.long (p1 % p2)), .second] [(.int (XT.cmpL (p1 % p2) (0 : Int64)))])) (fun tgt cont => ?_) ?_
    · refine XS.ifNo X0.here hx rfl (hb hby d17_10) rfl (XT.ll_ge_f hc1) ?_
      refine XS.lload X0.here hx rfl (hb hby d17_13) rfl ?_
      refine XT.lconstV X0.here hx rfl (0 : Int64) (hb hby d17_15) rfl ?_
      refine XT.lcmp X0.here hx rfl (hb hby d17_16) rfl ?_
      exact cont
    by_cases hc2 : (p1 % p2) = (0 : Int64)
    ·
      refine own_go (B := s₁.setTop (mkF m 27 #[.val (.long p1), .second, .val (.long p2), .second, .val (.long (p1 % p2)), .second] [(.long (p1 % p2))])) (fun tgt cont => ?_) ?_
      · refine XS.ifYes X0.here hx rfl (pc0 := 17) (pc' := 25) rfl (hb hby d17_17) rfl (XT.ll_eq_t hc2) (by decide) (by decide) ?_
        refine XS.lload X0.here hx rfl (hb hby d17_25) rfl ?_
        exact cont
      refine own_end X0 (v := some (.long (p1 % p2))) (fun h => by rw [Bd.returns] at h; cases h) hlk ?_ (by decide) (by decide) (fun fs hl => retOut X0 hx Bd.returns rfl (Or.inr (Or.inl ⟨rfl, rfl, _, rfl⟩)) (hb hby d17_27) hl)
      exact ⟨(by unfold own_fm; first | (simp only [if_pos hc1, if_pos hc2]; done) | (simp only [if_pos hc1, if_pos hc2]; exact rfl) | exact rfl), N0, e0⟩
    ·
      refine own_go (B := s₁.setTop (mkF m 24 #[.val (.long p1), .second, .val (.long p2), .second, .val (.long (p1 % p2)), .second] [(.long ((p1 % p2) + p2))])) (fun tgt cont => ?_) ?_
      · refine XS.ifNo X0.here hx rfl (hb hby d17_17) rfl (XT.ll_eq_f hc2) ?_
        refine XS.lload X0.here hx rfl (hb hby d17_20) rfl ?_
        refine XS.lloadN X0.here hx rfl (hb hby d17_22) rfl ?_
        refine XS.ladd X0.here hx rfl (hb hby d17_23) rfl ?_
        exact cont
      refine own_end X0 (v := some (.long ((p1 % p2) + p2))) (fun h => by rw [Bd.returns] at h; cases h) hlk ?_ (by decide) (by decide) (fun fs hl => retOut X0 hx Bd.returns rfl (Or.inr (Or.inl ⟨rfl, rfl, _, rfl⟩)) (hb hby d17_24) hl)
      exact ⟨(by unfold own_fm; first | (simp only [if_pos hc1, if_neg hc2]; done) | (simp only [if_pos hc1, if_neg hc2]; exact rfl) | exact rfl), N0, e0⟩
  ·
    refine own_go (B := s₁.setTop (mkF m 27 #[.val (.long p1), .second, .val (.long p2), .second, .val (.long (p1 % p2)), .second] [(.long (p1 % p2))])) (fun tgt cont => ?_) ?_
    · refine XS.ifYes X0.here hx rfl (pc0 := 10) (pc' := 25) rfl (hb hby d17_10) rfl (XT.ll_ge_t hc1) (by decide) (by decide) ?_
      refine XS.lload X0.here hx rfl (hb hby d17_25) rfl ?_
      exact cont
    refine own_end X0 (v := some (.long (p1 % p2))) (fun h => by rw [Bd.returns] at h; cases h) hlk ?_ (by decide) (by decide) (fun fs hl => retOut X0 hx Bd.returns rfl (Or.inr (Or.inl ⟨rfl, rfl, _, rfl⟩)) (hb hby d17_27) hl)
    exact ⟨(by unfold own_fm; first | (simp only [if_neg hc1]; done) | (simp only [if_neg hc1]; exact rfl) | exact rfl), N0, e0⟩
def own_fd (p1 : Int64) (p2 : Int64) : Int64 := if (p1 ^^^ p2) < (0 : Int64) then if ((p1 / p2) * p2) = p1 then (p1 / p2) else ((p1 / p2) - (1 : Int64)) else (p1 / p2)
def Q_rm18 (Z : State) (p1 : Int64) (p2 : Int64) (h0 : Heap) (n0 : Nat) (v : Option Value) (h : Heap) (L : List Loc) : Prop := v = some (.long (own_fd p1 p2)) ∧ Fr n0 L ∧ h = h0
theorem d18_0 : decode jdk_29_method_49_code 0 = .ok (.lload_n 0, 1) := by decide +kernel
theorem d18_1 : decode jdk_29_method_49_code 1 = .ok (.lload_n 2, 1) := by decide +kernel
theorem d18_2 : decode jdk_29_method_49_code 2 = .ok (.ldiv, 1) := by decide +kernel
theorem d18_3 : decode jdk_29_method_49_code 3 = .ok (.lstore 4, 2) := by decide +kernel
theorem d18_5 : decode jdk_29_method_49_code 5 = .ok (.lload_n 0, 1) := by decide +kernel
theorem d18_6 : decode jdk_29_method_49_code 6 = .ok (.lload_n 2, 1) := by decide +kernel
theorem d18_7 : decode jdk_29_method_49_code 7 = .ok (.lxor, 1) := by decide +kernel
theorem d18_8 : decode jdk_29_method_49_code 8 = .ok (.lconst 0, 1) := by decide +kernel
theorem d18_9 : decode jdk_29_method_49_code 9 = .ok (.lcmp, 1) := by decide +kernel
theorem d18_10 : decode jdk_29_method_49_code 10 = .ok (.ifCond .ge 17, 3) := by decide +kernel
theorem d18_13 : decode jdk_29_method_49_code 13 = .ok (.lload 4, 2) := by decide +kernel
theorem d18_15 : decode jdk_29_method_49_code 15 = .ok (.lload_n 2, 1) := by decide +kernel
theorem d18_16 : decode jdk_29_method_49_code 16 = .ok (.lmul, 1) := by decide +kernel
theorem d18_17 : decode jdk_29_method_49_code 17 = .ok (.lload_n 0, 1) := by decide +kernel
theorem d18_18 : decode jdk_29_method_49_code 18 = .ok (.lcmp, 1) := by decide +kernel
theorem d18_19 : decode jdk_29_method_49_code 19 = .ok (.ifCond .eq 8, 3) := by decide +kernel
theorem d18_22 : decode jdk_29_method_49_code 22 = .ok (.lload 4, 2) := by decide +kernel
theorem d18_24 : decode jdk_29_method_49_code 24 = .ok (.lconst 1, 1) := by decide +kernel
theorem d18_25 : decode jdk_29_method_49_code 25 = .ok (.lsub, 1) := by decide +kernel
theorem d18_26 : decode jdk_29_method_49_code 26 = .ok (.lreturn, 1) := by decide +kernel
theorem d18_27 : decode jdk_29_method_49_code 27 = .ok (.lload 4, 2) := by decide +kernel
theorem d18_29 : decode jdk_29_method_49_code 29 = .ok (.lreturn, 1) := by decide +kernel
set_option maxRecDepth 65536 in
set_option maxHeartbeats 40000000 in
theorem rm18 (l : Launch) (Z : State) (a0 : Array Value) (hw : ∀ d ∈ tables_1, d.before a0 Z = true) (ws : List Jvm.Cond) (p1 : Int64) (p2 : Int64) (h0 : Heap) (n0 : Nat) (Z0 : n0 ≤ h0.size) (hnz : p2 ≠ 0) :
    MetFree l (⟨"java/lang/Math", "floorDiv", "(JJ)J"⟩ : MethodName) (head1 (Jvm.Cond.code (⟨"java/lang/Math", "floorDiv", "(JJ)J"⟩ : MethodName) jdk_29_method_49_code 6 (some .long) :: ws) ({ frames := 0, cells := 0, slots := 0, locals := 0 } : Room)) (fun aa U => aa = #[(.long p1), (.long p2)] ∧ Z.Warmed39 U.vm ∧ U.heap = h0) (fun _ _ _ _ _ => True) (fun _ U o U' => ∃ v L, o = .returned v ∧ Q_rm18 Z p1 p2 h0 n0 v U'.heap L ∧ FrameEnd U o U' L ({ frames := 0, cells := 0, slots := 0, locals := 0 } : Room).cells ({ frames := 0, cells := 0, slots := 0, locals := 0 } : Room).slots) := by
  refine MetFree.of_bodySF (Jvm.Free.JP.mathPlain rfl (by decide +kernel)) hisR ?_
  intro p e s m args below meth c s₁ Bd hml0 hP hK
  obtain ⟨rfl, hZ, hh⟩ := hP
  have hx := Bd.exec
  have hby := Bd.bytes
  have hml : c.maxLocals = 6 := hml0
  have hlk : meth.locks = false := BodyLoose.notSynchronized Bd
  have hown : s.vm.findClass "java/lang/Math" = some m.cls := findClass_of_methodNamed Bd.named
  have hnm := (name_of_methodNamed Bd.named Bd.method).1
  have X0 : Stand p l e ({ frames := 0, cells := 0, slots := 0, locals := 0 } : Room) s m #[(.long p1), (.long p2)] below meth c s₁ [] 0 0 := Stand.of_body Bd
  have e0 : s₁.heap = h0 := by rw [← hh, Bd.state]; rfl
  have N0 := Fr.nil n0
  show own_Go p e below s (Q_rm18 Z p1 p2 h0 n0) 0 0 (s₁.setTop (entryFrame m #[(.long p1), (.long p2)] 6))
  refine own_go (B := s₁.setTop (mkF m 0 #[.val (.long p1), .second, .val (.long p2), .second, .unset, .unset] [])) (fun tgt cont => (XT.entry rfl).trans cont) ?_
  refine own_go (B := s₁.setTop (mkF m 10 #[.val (.long p1), .second, .val (.long p2), .second, .val (.long (p1 / p2)), .second] [(.int (XT.cmpL (p1 ^^^ p2) (0 : Int64)))])) (fun tgt cont => ?_) ?_
  · refine XS.lloadN X0.here hx rfl (hb hby d18_0) rfl ?_
    refine XS.lloadN X0.here hx rfl (hb hby d18_1) rfl ?_
    refine XS.ldiv X0.here hx rfl (hb hby d18_2) rfl hnz ?_
    refine XS.lstore X0.here hx rfl (hb hby d18_3) rfl (l' := #[.val (.long p1), .second, .val (.long p2), .second, .val (.long (p1 / p2)), .second]) rfl ?_
    refine XS.lloadN X0.here hx rfl (hb hby d18_5) rfl ?_
    refine XS.lloadN X0.here hx rfl (hb hby d18_6) rfl ?_
    refine XS.lxor X0.here hx rfl (hb hby d18_7) rfl ?_
    refine XT.lconstV X0.here hx rfl (0 : Int64) (hb hby d18_8) rfl ?_
    refine XT.lcmp X0.here hx rfl (hb hby d18_9) rfl ?_
    exact cont
  by_cases hc1 : (p1 ^^^ p2) < (0 : Int64)
  ·
    refine own_go (B := s₁.setTop (mkF m 19 #[.val (.long p1), .second, .val (.long p2), .second, .val (.long (p1 / p2)), .second] [(.int (XT.cmpL ((p1 / p2) * p2) p1))])) (fun tgt cont => ?_) ?_
    · refine XS.ifNo X0.here hx rfl (hb hby d18_10) rfl (XT.ll_ge_f hc1) ?_
      refine XS.lload X0.here hx rfl (hb hby d18_13) rfl ?_
      refine XS.lloadN X0.here hx rfl (hb hby d18_15) rfl ?_
      refine XS.lmul X0.here hx rfl (hb hby d18_16) rfl ?_
      refine XS.lloadN X0.here hx rfl (hb hby d18_17) rfl ?_
      refine XT.lcmp X0.here hx rfl (hb hby d18_18) rfl ?_
      exact cont
    by_cases hc2 : ((p1 / p2) * p2) = p1
    ·
      refine own_go (B := s₁.setTop (mkF m 29 #[.val (.long p1), .second, .val (.long p2), .second, .val (.long (p1 / p2)), .second] [(.long (p1 / p2))])) (fun tgt cont => ?_) ?_
      · refine XS.ifYes X0.here hx rfl (pc0 := 19) (pc' := 27) rfl (hb hby d18_19) rfl (XT.ll_eq_t hc2) (by decide) (by decide) ?_
        refine XS.lload X0.here hx rfl (hb hby d18_27) rfl ?_
        exact cont
      refine own_end X0 (v := some (.long (p1 / p2))) (fun h => by rw [Bd.returns] at h; cases h) hlk ?_ (by decide) (by decide) (fun fs hl => retOut X0 hx Bd.returns rfl (Or.inr (Or.inl ⟨rfl, rfl, _, rfl⟩)) (hb hby d18_29) hl)
      exact ⟨(by unfold own_fd; first | (simp only [if_pos hc1, if_pos hc2]; done) | (simp only [if_pos hc1, if_pos hc2]; exact rfl) | exact rfl), N0, e0⟩
    ·
      refine own_go (B := s₁.setTop (mkF m 26 #[.val (.long p1), .second, .val (.long p2), .second, .val (.long (p1 / p2)), .second] [(.long ((p1 / p2) - (1 : Int64)))])) (fun tgt cont => ?_) ?_
      · refine XS.ifNo X0.here hx rfl (hb hby d18_19) rfl (XT.ll_eq_f hc2) ?_
        refine XS.lload X0.here hx rfl (hb hby d18_22) rfl ?_
        refine XT.lconstV X0.here hx rfl (1 : Int64) (hb hby d18_24) rfl ?_
        refine XS.lsub X0.here hx rfl (hb hby d18_25) rfl ?_
        exact cont
      refine own_end X0 (v := some (.long ((p1 / p2) - (1 : Int64)))) (fun h => by rw [Bd.returns] at h; cases h) hlk ?_ (by decide) (by decide) (fun fs hl => retOut X0 hx Bd.returns rfl (Or.inr (Or.inl ⟨rfl, rfl, _, rfl⟩)) (hb hby d18_26) hl)
      exact ⟨(by unfold own_fd; first | (simp only [if_pos hc1, if_neg hc2]; done) | (simp only [if_pos hc1, if_neg hc2]; exact rfl) | exact rfl), N0, e0⟩
  ·
    refine own_go (B := s₁.setTop (mkF m 29 #[.val (.long p1), .second, .val (.long p2), .second, .val (.long (p1 / p2)), .second] [(.long (p1 / p2))])) (fun tgt cont => ?_) ?_
    · refine XS.ifYes X0.here hx rfl (pc0 := 10) (pc' := 27) rfl (hb hby d18_10) rfl (XT.ll_ge_t hc1) (by decide) (by decide) ?_
      refine XS.lload X0.here hx rfl (hb hby d18_27) rfl ?_
      exact cont
    refine own_end X0 (v := some (.long (p1 / p2))) (fun h => by rw [Bd.returns] at h; cases h) hlk ?_ (by decide) (by decide) (fun fs hl => retOut X0 hx Bd.returns rfl (Or.inr (Or.inl ⟨rfl, rfl, _, rfl⟩)) (hb hby d18_29) hl)
    exact ⟨(by unfold own_fd; first | (simp only [if_neg hc1]; done) | (simp only [if_neg hc1]; exact rfl) | exact rfl), N0, e0⟩
def own_fmi (p1 : Int64) (p2 : Int32) : Int32 := ((own_fm p1 (p2.toInt64)).toInt32)
def Q_rm19 (Z : State) (p1 : Int64) (p2 : Int32) (h0 : Heap) (n0 : Nat) (v : Option Value) (h : Heap) (L : List Loc) : Prop := v = some (.int (own_fmi p1 p2)) ∧ Fr n0 L ∧ h = h0
theorem own_pd0 : parseMethodDescriptor "(JJ)J" = some ⟨[.long, .long], some .long⟩ := by decide +kernel
theorem d19_0 : decode jdk_29_method_51_code 0 = .ok (.lload_n 0, 1) := by decide +kernel
theorem d19_1 : decode jdk_29_method_51_code 1 = .ok (.iload_n 2, 1) := by decide +kernel
theorem d19_2 : decode jdk_29_method_51_code 2 = .ok (.i2l, 1) := by decide +kernel
theorem d19_3 : decode jdk_29_method_51_code 3 = .ok (.invokestatic 146, 3) := by decide +kernel
theorem d19_6 : decode jdk_29_method_51_code 6 = .ok (.l2i, 1) := by decide +kernel
theorem d19_7 : decode jdk_29_method_51_code 7 = .ok (.ireturn, 1) := by decide +kernel
set_option maxRecDepth 65536 in
set_option maxHeartbeats 40000000 in
theorem rm19 (l : Launch) (Z : State) (a0 : Array Value) (hw : ∀ d ∈ tables_1, d.before a0 Z = true) (ws : List Jvm.Cond) (p1 : Int64) (p2 : Int32) (h0 : Heap) (n0 : Nat) (Z0 : n0 ≤ h0.size) (hnz : p2.toInt64 ≠ 0) :
    MetFree l (⟨"java/lang/Math", "floorMod", "(JI)I"⟩ : MethodName) (head1 (Jvm.Cond.code (⟨"java/lang/Math", "floorMod", "(JI)I"⟩ : MethodName) jdk_29_method_51_code 3 (some .int) :: ws) ({ frames := 1, cells := 0, slots := 0, locals := 17 } : Room)) (fun aa U => aa = #[(.long p1), (.int p2)] ∧ Z.Warmed39 U.vm ∧ U.heap = h0) (fun _ _ _ _ _ => True) (fun _ U o U' => ∃ v L, o = .returned v ∧ Q_rm19 Z p1 p2 h0 n0 v U'.heap L ∧ FrameEnd U o U' L ({ frames := 1, cells := 0, slots := 0, locals := 17 } : Room).cells ({ frames := 1, cells := 0, slots := 0, locals := 17 } : Room).slots) := by
  refine MetFree.of_bodySF (Jvm.Free.JP.mathPlain rfl (by decide +kernel)) hisR ?_
  intro p e s m args below meth c s₁ Bd hml0 hP hK
  obtain ⟨rfl, hZ, hh⟩ := hP
  have hx := Bd.exec
  have hby := Bd.bytes
  have hml : c.maxLocals = 3 := hml0
  have hlk : meth.locks = false := BodyLoose.notSynchronized Bd
  have hown : s.vm.findClass "java/lang/Math" = some m.cls := findClass_of_methodNamed Bd.named
  have hnm := (name_of_methodNamed Bd.named Bd.method).1
  have X0 : Stand p l e ({ frames := 1, cells := 0, slots := 0, locals := 17 } : Room) s m #[(.long p1), (.int p2)] below meth c s₁ [] 0 0 := Stand.of_body Bd
  have e0 : s₁.heap = h0 := by rw [← hh, Bd.state]; rfl
  have N0 := Fr.nil n0
  show own_Go p e below s (Q_rm19 Z p1 p2 h0 n0) 0 0 (s₁.setTop (entryFrame m #[(.long p1), (.int p2)] 3))
  refine own_go (B := s₁.setTop (mkF m 0 #[.val (.long p1), .second, .val (.int p2)] [])) (fun tgt cont => (XT.entry rfl).trans cont) ?_
  refine own_go (B := s₁.setTop (mkF m 3 #[.val (.long p1), .second, .val (.int p2)] [(.long (p2.toInt64)), (.long p1)])) (fun tgt cont => ?_) ?_
  · refine XS.lloadN X0.here hx rfl (hb hby d19_0) rfl ?_
    refine XS.iloadN X0.here hx rfl (hb hby d19_1) rfl ?_
    refine XS.i2l X0.here hx rfl (hb hby d19_2) rfl ?_
    exact cont
  -- pc 3: Math.floorMod
  obtain ⟨_, _, ⟨T1, L1, k1, n1⟩, -, X1, ⟨Lc1, hQ1, l1, y1, z1⟩, st1⟩ := Jvm.LawKit.callS X0 hx (y := (⟨"java/lang/Math", "floorMod", "(JJ)J"⟩ : MethodName)) hown (mvT hZ (hw _ (List.mem_of_getElem? (i := 117) rfl))) (mvT hZ (hw _ (List.mem_of_getElem? (i := 105) rfl))) (mvT hZ (hw _ (List.mem_of_getElem? (i := 106) rfl))) (mvT hZ (hw _ (List.mem_of_getElem? (i := 107) rfl))) (by decide) (backOf (W := 0) (rm17 l Z a0 hw [] p1 (p2.toInt64) h0 n0 Z0 hnz) hZ (hw _ (List.mem_of_getElem? (i := 107) rfl)) (hw _ (List.mem_of_getElem? (i := 106) rfl)) (by decide) (by decide)) (g := (mkF m 3 #[.val (.long p1), .second, .val (.int p2)] [(.long (p2.toInt64)), (.long p1)])) rfl (by rw [hml]; rfl) (argsL := [(.long p1), (.long (p2.toInt64))]) (rest := []) (lenOf own_pd0 rfl) rfl (by show 2 * 0 + _ ≤ _; exact Nat.le_of_eq rfl) (hb hby d19_3) (fun _ _ => ⟨rfl, e0, (by decide : 0 + 0 ≤ _), (by decide : 0 + 0 ≤ _)⟩)
  dsimp only [Pt.U, Pt.locs, Pt.cells, Pt.slots] at X1 l1 y1 z1 st1 hQ1
  subst l1 y1 z1
  obtain ⟨rfl, N1q, e1⟩ := hQ1
  have N1 := Fr.app N0 N1q
  refine own_go (fun tgt cont => st1 tgt cont) ?_
  show own_Go p e below s (Q_rm19 Z p1 p2 h0 n0) 0 0 (T1.setTop (mkF m 6 #[.val (.long p1), .second, .val (.int p2)] [(.long (own_fm p1 (p2.toInt64)))]))
  refine own_go (B := T1.setTop (mkF m 7 #[.val (.long p1), .second, .val (.int p2)] [(.int ((own_fm p1 (p2.toInt64)).toInt32))])) (fun tgt cont => ?_) ?_
  · refine XS.l2i X1.here hx rfl (hb hby d19_6) rfl ?_
    exact cont
  refine own_end X1 (v := some (.int ((own_fm p1 (p2.toInt64)).toInt32))) (fun h => by rw [Bd.returns] at h; cases h) hlk ?_ (by decide) (by decide) (fun fs hl => retI X1 hx Bd.returns (hb hby d19_7) hl)
  exact ⟨(by unfold own_fmi; exact rfl), N1, e1⟩
def own_cmp (p1 : Int64) (p2 : Int64) : Int32 := if p1 < p2 then (-1 : Int32) else if p1 = p2 then (0 : Int32) else (1 : Int32)
def Q_rm10 (Z : State) (p1 : Int64) (p2 : Int64) (h0 : Heap) (n0 : Nat) (v : Option Value) (h : Heap) (L : List Loc) : Prop := v = some (.int (own_cmp p1 p2)) ∧ Fr n0 L ∧ h = h0
theorem own_pn0 : plainName "java/lang/Long" = true := by first | (simp [plainName, overriddenIn]; done) | decide +kernel
theorem d10_0 : decode jdk_35_method_42_code 0 = .ok (.lload_n 0, 1) := by decide +kernel
theorem d10_1 : decode jdk_35_method_42_code 1 = .ok (.lload_n 2, 1) := by decide +kernel
theorem d10_2 : decode jdk_35_method_42_code 2 = .ok (.lcmp, 1) := by decide +kernel
theorem d10_3 : decode jdk_35_method_42_code 3 = .ok (.ifCond .ge 7, 3) := by decide +kernel
theorem d10_6 : decode jdk_35_method_42_code 6 = .ok (.iconst (-1), 1) := by decide +kernel
theorem d10_7 : decode jdk_35_method_42_code 7 = .ok (.goto 14, 3) := by decide +kernel
theorem d10_10 : decode jdk_35_method_42_code 10 = .ok (.lload_n 0, 1) := by decide +kernel
theorem d10_11 : decode jdk_35_method_42_code 11 = .ok (.lload_n 2, 1) := by decide +kernel
theorem d10_12 : decode jdk_35_method_42_code 12 = .ok (.lcmp, 1) := by decide +kernel
theorem d10_13 : decode jdk_35_method_42_code 13 = .ok (.ifCond .ne 7, 3) := by decide +kernel
theorem d10_16 : decode jdk_35_method_42_code 16 = .ok (.iconst 0, 1) := by decide +kernel
theorem d10_17 : decode jdk_35_method_42_code 17 = .ok (.goto 4, 3) := by decide +kernel
theorem d10_20 : decode jdk_35_method_42_code 20 = .ok (.iconst 1, 1) := by decide +kernel
theorem d10_21 : decode jdk_35_method_42_code 21 = .ok (.ireturn, 1) := by decide +kernel
set_option maxRecDepth 65536 in
set_option maxHeartbeats 40000000 in
theorem rm10 (l : Launch) (Z : State) (a0 : Array Value) (hw : ∀ d ∈ tables_1, d.before a0 Z = true) (ws : List Jvm.Cond) (p1 : Int64) (p2 : Int64) (h0 : Heap) (n0 : Nat) (Z0 : n0 ≤ h0.size)  :
    MetFree l (⟨"java/lang/Long", "compare", "(JJ)I"⟩ : MethodName) (head1 (Jvm.Cond.code (⟨"java/lang/Long", "compare", "(JJ)I"⟩ : MethodName) jdk_35_method_42_code 4 (some .int) :: ws) ({ frames := 0, cells := 0, slots := 0, locals := 0 } : Room)) (fun aa U => aa = #[(.long p1), (.long p2)] ∧ Z.Warmed39 U.vm ∧ U.heap = h0) (fun _ _ _ _ _ => True) (fun _ U o U' => ∃ v L, o = .returned v ∧ Q_rm10 Z p1 p2 h0 n0 v U'.heap L ∧ FrameEnd U o U' L ({ frames := 0, cells := 0, slots := 0, locals := 0 } : Room).cells ({ frames := 0, cells := 0, slots := 0, locals := 0 } : Room).slots) := by
  refine MetFree.of_bodySF (plainFor_of_name own_pn0) hisR ?_
  intro p e s m args below meth c s₁ Bd hml0 hP hK
  obtain ⟨rfl, hZ, hh⟩ := hP
  have hx := Bd.exec
  have hby := Bd.bytes
  have hml : c.maxLocals = 4 := hml0
  have hlk : meth.locks = false := BodyLoose.notSynchronized Bd
  have hown : s.vm.findClass "java/lang/Long" = some m.cls := findClass_of_methodNamed Bd.named
  have hnm := (name_of_methodNamed Bd.named Bd.method).1
  have X0 : Stand p l e ({ frames := 0, cells := 0, slots := 0, locals := 0 } : Room) s m #[(.long p1), (.long p2)] below meth c s₁ [] 0 0 := Stand.of_body Bd
  have e0 : s₁.heap = h0 := by rw [← hh, Bd.state]; rfl
  have N0 := Fr.nil n0
  show own_Go p e below s (Q_rm10 Z p1 p2 h0 n0) 0 0 (s₁.setTop (entryFrame m #[(.long p1), (.long p2)] 4))
  refine own_go (B := s₁.setTop (mkF m 0 #[.val (.long p1), .second, .val (.long p2), .second] [])) (fun tgt cont => (XT.entry rfl).trans cont) ?_
  refine own_go (B := s₁.setTop (mkF m 3 #[.val (.long p1), .second, .val (.long p2), .second] [(.int (XT.cmpL p1 p2))])) (fun tgt cont => ?_) ?_
  · refine XS.lloadN X0.here hx rfl (hb hby d10_0) rfl ?_
    refine XS.lloadN X0.here hx rfl (hb hby d10_1) rfl ?_
    refine XT.lcmp X0.here hx rfl (hb hby d10_2) rfl ?_
    exact cont
  by_cases hc1 : p1 < p2
  ·
    refine own_go (B := s₁.setTop (mkF m 21 #[.val (.long p1), .second, .val (.long p2), .second] [(.int (-1 : Int32))])) (fun tgt cont => ?_) ?_
    · refine XS.ifNo X0.here hx rfl (hb hby d10_3) rfl (XT.ll_ge_f hc1) ?_
      refine XT.iconstV X0.here hx rfl (-1 : Int32) (hb hby d10_6) rfl ?_
      refine XS.goto X0.here hx rfl (pc0 := 7) (pc' := 21) rfl (hb hby d10_7) (by decide) (by decide) ?_
      exact cont
    refine own_end X0 (v := some (.int (-1 : Int32))) (fun h => by rw [Bd.returns] at h; cases h) hlk ?_ (by decide) (by decide) (fun fs hl => retI X0 hx Bd.returns (hb hby d10_21) hl)
    exact ⟨(by unfold own_cmp; first | (simp only [if_pos hc1]; done) | (simp only [if_pos hc1]; exact rfl) | exact rfl), N0, e0⟩
  ·
    refine own_go (B := s₁.setTop (mkF m 13 #[.val (.long p1), .second, .val (.long p2), .second] [(.int (XT.cmpL p1 p2))])) (fun tgt cont => ?_) ?_
    · refine XS.ifYes X0.here hx rfl (pc0 := 3) (pc' := 10) rfl (hb hby d10_3) rfl (XT.ll_ge_t hc1) (by decide) (by decide) ?_
      refine XS.lloadN X0.here hx rfl (hb hby d10_10) rfl ?_
      refine XS.lloadN X0.here hx rfl (hb hby d10_11) rfl ?_
      refine XT.lcmp X0.here hx rfl (hb hby d10_12) rfl ?_
      exact cont
    by_cases hc2 : p1 = p2
    ·
      refine own_go (B := s₁.setTop (mkF m 21 #[.val (.long p1), .second, .val (.long p2), .second] [(.int (0 : Int32))])) (fun tgt cont => ?_) ?_
      · refine XS.ifNo X0.here hx rfl (hb hby d10_13) rfl (XT.ll_ne_f hc2) ?_
        refine XT.iconstV X0.here hx rfl (0 : Int32) (hb hby d10_16) rfl ?_
        refine XS.goto X0.here hx rfl (pc0 := 17) (pc' := 21) rfl (hb hby d10_17) (by decide) (by decide) ?_
        exact cont
      refine own_end X0 (v := some (.int (0 : Int32))) (fun h => by rw [Bd.returns] at h; cases h) hlk ?_ (by decide) (by decide) (fun fs hl => retI X0 hx Bd.returns (hb hby d10_21) hl)
      exact ⟨(by unfold own_cmp; first | (simp only [if_neg hc1, if_pos hc2]; done) | (simp only [if_neg hc1, if_pos hc2]; exact rfl) | exact rfl), N0, e0⟩
    ·
      refine own_go (B := s₁.setTop (mkF m 21 #[.val (.long p1), .second, .val (.long p2), .second] [(.int (1 : Int32))])) (fun tgt cont => ?_) ?_
      · refine XS.ifYes X0.here hx rfl (pc0 := 13) (pc' := 20) rfl (hb hby d10_13) rfl (XT.ll_ne_t hc2) (by decide) (by decide) ?_
        refine XT.iconstV X0.here hx rfl (1 : Int32) (hb hby d10_20) rfl ?_
        exact cont
      refine own_end X0 (v := some (.int (1 : Int32))) (fun h => by rw [Bd.returns] at h; cases h) hlk ?_ (by decide) (by decide) (fun fs hl => retI X0 hx Bd.returns (hb hby d10_21) hl)
      exact ⟨(by unfold own_cmp; first | (simp only [if_neg hc1, if_neg hc2]; done) | (simp only [if_neg hc1, if_neg hc2]; exact rfl) | exact rfl), N0, e0⟩
def own_cmpU (p1 : Int64) (p2 : Int64) : Int32 := (own_cmp (p1 + (-9223372036854775808 : Int64)) (p2 + (-9223372036854775808 : Int64)))
def Q_rm9 (Z : State) (p1 : Int64) (p2 : Int64) (h0 : Heap) (n0 : Nat) (v : Option Value) (h : Heap) (L : List Loc) : Prop := v = some (.int (own_cmpU p1 p2)) ∧ Fr n0 L ∧ h = h0
theorem own_pd1 : parseMethodDescriptor "(JJ)I" = some ⟨[.long, .long], some .int⟩ := by decide +kernel
theorem d9_0 : decode jdk_35_method_43_code 0 = .ok (.lload_n 0, 1) := by decide +kernel
theorem d9_1 : decode jdk_35_method_43_code 1 = .ok (.ldc2_w 168, 3) := by decide +kernel
theorem d9_4 : decode jdk_35_method_43_code 4 = .ok (.ladd, 1) := by decide +kernel
theorem d9_5 : decode jdk_35_method_43_code 5 = .ok (.lload_n 2, 1) := by decide +kernel
theorem d9_6 : decode jdk_35_method_43_code 6 = .ok (.ldc2_w 168, 3) := by decide +kernel
theorem d9_9 : decode jdk_35_method_43_code 9 = .ok (.ladd, 1) := by decide +kernel
theorem d9_10 : decode jdk_35_method_43_code 10 = .ok (.invokestatic 302, 3) := by decide +kernel
theorem d9_13 : decode jdk_35_method_43_code 13 = .ok (.ireturn, 1) := by decide +kernel
set_option maxRecDepth 65536 in
set_option maxHeartbeats 40000000 in
theorem rm9 (l : Launch) (Z : State) (a0 : Array Value) (hw : ∀ d ∈ tables_1, d.before a0 Z = true) (ws : List Jvm.Cond) (p1 : Int64) (p2 : Int64) (h0 : Heap) (n0 : Nat) (Z0 : n0 ≤ h0.size)  :
    MetFree l (⟨"java/lang/Long", "compareUnsigned", "(JJ)I"⟩ : MethodName) (head1 (Jvm.Cond.code (⟨"java/lang/Long", "compareUnsigned", "(JJ)I"⟩ : MethodName) jdk_35_method_43_code 4 (some .int) :: ws) ({ frames := 1, cells := 0, slots := 0, locals := 15 } : Room)) (fun aa U => aa = #[(.long p1), (.long p2)] ∧ Z.Warmed39 U.vm ∧ U.heap = h0) (fun _ _ _ _ _ => True) (fun _ U o U' => ∃ v L, o = .returned v ∧ Q_rm9 Z p1 p2 h0 n0 v U'.heap L ∧ FrameEnd U o U' L ({ frames := 1, cells := 0, slots := 0, locals := 15 } : Room).cells ({ frames := 1, cells := 0, slots := 0, locals := 15 } : Room).slots) := by
  refine MetFree.of_bodySF (plainFor_of_name own_pn0) hisR ?_
  intro p e s m args below meth c s₁ Bd hml0 hP hK
  obtain ⟨rfl, hZ, hh⟩ := hP
  have hx := Bd.exec
  have hby := Bd.bytes
  have hml : c.maxLocals = 4 := hml0
  have hlk : meth.locks = false := BodyLoose.notSynchronized Bd
  have hown : s.vm.findClass "java/lang/Long" = some m.cls := findClass_of_methodNamed Bd.named
  have hnm := (name_of_methodNamed Bd.named Bd.method).1
  have X0 : Stand p l e ({ frames := 1, cells := 0, slots := 0, locals := 15 } : Room) s m #[(.long p1), (.long p2)] below meth c s₁ [] 0 0 := Stand.of_body Bd
  have e0 : s₁.heap = h0 := by rw [← hh, Bd.state]; rfl
  have N0 := Fr.nil n0
  show own_Go p e below s (Q_rm9 Z p1 p2 h0 n0) 0 0 (s₁.setTop (entryFrame m #[(.long p1), (.long p2)] 4))
  refine own_go (B := s₁.setTop (mkF m 0 #[.val (.long p1), .second, .val (.long p2), .second] [])) (fun tgt cont => (XT.entry rfl).trans cont) ?_
  refine own_go (B := s₁.setTop (mkF m 10 #[.val (.long p1), .second, .val (.long p2), .second] [(.long (p2 + (-9223372036854775808 : Int64))), (.long (p1 + (-9223372036854775808 : Int64)))])) (fun tgt cont => ?_) ?_
  · refine XS.lloadN X0.here hx rfl (hb hby d9_0) rfl ?_
    refine Stand.ldc2J X0 hx hown (mvT hZ (hw _ (List.mem_of_getElem? (i := 71) rfl))) rfl (hb hby d9_1) ?_
    refine XS.ladd X0.here hx rfl (hb hby d9_4) rfl ?_
    refine XS.lloadN X0.here hx rfl (hb hby d9_5) rfl ?_
    refine Stand.ldc2J X0 hx hown (mvT hZ (hw _ (List.mem_of_getElem? (i := 71) rfl))) rfl (hb hby d9_6) ?_
    refine XS.ladd X0.here hx rfl (hb hby d9_9) rfl ?_
    exact cont
  -- pc 10: Long.compare
  obtain ⟨_, _, ⟨T1, L1, k1, n1⟩, -, X1, ⟨Lc1, hQ1, l1, y1, z1⟩, st1⟩ := Jvm.LawKit.callS X0 hx (y := (⟨"java/lang/Long", "compare", "(JJ)I"⟩ : MethodName)) hown (mvT hZ (hw _ (List.mem_of_getElem? (i := 72) rfl))) (mvT hZ (hw _ (List.mem_of_getElem? (i := 73) rfl))) (mvT hZ (hw _ (List.mem_of_getElem? (i := 69) rfl))) (mvT hZ (hw _ (List.mem_of_getElem? (i := 74) rfl))) (by decide) (backOf (W := 0) (rm10 l Z a0 hw [] (p1 + (-9223372036854775808 : Int64)) (p2 + (-9223372036854775808 : Int64)) h0 n0 Z0 ) hZ (hw _ (List.mem_of_getElem? (i := 74) rfl)) (hw _ (List.mem_of_getElem? (i := 69) rfl)) (by decide) (by decide)) (g := (mkF m 10 #[.val (.long p1), .second, .val (.long p2), .second] [(.long (p2 + (-9223372036854775808 : Int64))), (.long (p1 + (-9223372036854775808 : Int64)))])) rfl (by rw [hml]; rfl) (argsL := [(.long (p1 + (-9223372036854775808 : Int64))), (.long (p2 + (-9223372036854775808 : Int64)))]) (rest := []) (lenOf own_pd1 rfl) rfl (by show 2 * 0 + _ ≤ _; exact Nat.le_of_eq rfl) (hb hby d9_10) (fun _ _ => ⟨rfl, e0, (by decide : 0 + 0 ≤ _), (by decide : 0 + 0 ≤ _)⟩)
  dsimp only [Pt.U, Pt.locs, Pt.cells, Pt.slots] at X1 l1 y1 z1 st1 hQ1
  subst l1 y1 z1
  obtain ⟨rfl, N1q, e1⟩ := hQ1
  have N1 := Fr.app N0 N1q
  refine own_go (fun tgt cont => st1 tgt cont) ?_
  show own_Go p e below s (Q_rm9 Z p1 p2 h0 n0) 0 0 (T1.setTop (mkF m 13 #[.val (.long p1), .second, .val (.long p2), .second] [(.int (own_cmp (p1 + (-9223372036854775808 : Int64)) (p2 + (-9223372036854775808 : Int64))))]))
  refine own_end X1 (v := some (.int (own_cmp (p1 + (-9223372036854775808 : Int64)) (p2 + (-9223372036854775808 : Int64))))) (fun h => by rw [Bd.returns] at h; cases h) hlk ?_ (by decide) (by decide) (fun fs hl => retI X1 hx Bd.returns (hb hby d9_13) hl)
  exact ⟨(by unfold own_cmpU; exact rfl), N1, e1⟩
def Q_rm2 (Z : State) (a : Addr) (h0 : Heap) (n0 : Nat) (v : Option Value) (h : Heap) (L : List Loc) : Prop := v = none ∧ Fr n0 L ∧ h = h0
theorem own_pn1 : plainName "java/lang/Record" = true := by first | (simp [plainName, overriddenIn]; done) | decide +kernel
theorem d2_0 : decode jdk_30_method_1_code 0 = .ok (.aload_n 0, 1) := by decide +kernel
theorem d2_1 : decode jdk_30_method_1_code 1 = .ok (.invokespecial 1, 3) := by decide +kernel
theorem d2_4 : decode jdk_30_method_1_code 4 = .ok (.return_, 1) := by decide +kernel
set_option maxRecDepth 65536 in
set_option maxHeartbeats 40000000 in
theorem rm2 (l : Launch) (Z : State) (a0 : Array Value) (hw : ∀ d ∈ tables_1, d.before a0 Z = true) (ws : List Jvm.Cond) (a : Addr) (h0 : Heap) (n0 : Nat) (Z0 : n0 ≤ h0.size) (E_a : Exa Z h0 a "com/example/eschborn/eschborn/engine/LoadRule")  :
    MetFree l (⟨"java/lang/Record", "<init>", "()V"⟩ : MethodName) (head1 (Jvm.Cond.code (⟨"java/lang/Record", "<init>", "()V"⟩ : MethodName) jdk_30_method_1_code 1 none :: ws) ({ frames := 1, cells := 0, slots := 0, locals := 12 } : Room)) (fun aa U => aa = #[(.ref a)] ∧ Z.Warmed39 U.vm ∧ U.heap = h0) (fun _ _ _ _ _ => True) (fun _ U o U' => ∃ v L, o = .returned v ∧ Q_rm2 Z a h0 n0 v U'.heap L ∧ FrameEnd U o U' L ({ frames := 1, cells := 0, slots := 0, locals := 12 } : Room).cells ({ frames := 1, cells := 0, slots := 0, locals := 12 } : Room).slots) := by
  refine MetFree.of_bodySF (plainFor_of_name own_pn1) hisR ?_
  intro p e s m args below meth c s₁ Bd hml0 hP hK
  obtain ⟨rfl, hZ, hh⟩ := hP
  have hx := Bd.exec
  have hby := Bd.bytes
  have hml : c.maxLocals = 1 := hml0
  have hlk : meth.locks = false := BodyLoose.notSynchronized Bd
  have hown : s.vm.findClass "java/lang/Record" = some m.cls := findClass_of_methodNamed Bd.named
  have hnm := (name_of_methodNamed Bd.named Bd.method).1
  have X0 : Stand p l e ({ frames := 1, cells := 0, slots := 0, locals := 12 } : Room) s m #[(.ref a)] below meth c s₁ [] 0 0 := Stand.of_body Bd
  have e0 : s₁.heap = h0 := by rw [← hh, Bd.state]; rfl
  have N0 := Fr.nil n0
  show own_Go p e below s (Q_rm2 Z a h0 n0) 0 0 (s₁.setTop (entryFrame m #[(.ref a)] 1))
  refine own_go (B := s₁.setTop (mkF m 0 #[.val (.ref a)] [])) (fun tgt cont => (XT.entry rfl).trans cont) ?_
  refine own_go (B := s₁.setTop (mkF m 1 #[.val (.ref a)] [(.ref a)])) (fun tgt cont => ?_) ?_
  · refine XS.aloadN X0.here hx rfl (hb hby d2_0) rfl rfl ?_
    exact cont
  obtain ⟨T1, X1, e1, st1⟩ := initO X0 hx hZ hown (hw _ (List.mem_of_getElem? (i := 16) rfl)) (hw _ (List.mem_of_getElem? (i := 17) rfl)) (hw _ (List.mem_of_getElem? (i := 18) rfl)) e0 (g := (mkF m 1 #[.val (.ref a)] [(.ref a)])) rfl (by rw [hml]; rfl) rfl (hb hby d2_1) (by decide) (W := 0) (by show 2 * 0 + _ ≤ _; exact Nat.le_of_eq rfl) (by decide)
  refine own_go (fun tgt cont => st1 tgt cont) ?_
  show own_Go p e below s (Q_rm2 Z a h0 n0) 0 0 (T1.setTop (mkF m 4 #[.val (.ref a)] []))
  refine own_end X1 (v := none) (fun _ => rfl) hlk ?_ (by decide) (by decide) (fun fs hl => X1.returnOut hx Bd.returns (hb hby d2_4) hl)
  exact ⟨rfl, N0, e1⟩
def Q_rm1 (Z : State) (a : Addr) (p1 : Int64) (p2 : Int64) (p3 : Int64) (p4 : Int64) (p5 : Int64) (p6 : Int64) (r_w : Int64) (r_b : Int64) (r_1 : Int64) (r_2 : Int64) (r_t : Int64) (r_c : Int64) (h0 : Heap) (n0 : Nat) (v : Option Value) (h : Heap) (L : List Loc) : Prop := v = none ∧ Fr n0 L ∧ Keep h0 h [a] ∧ Exa Z h a "com/example/eschborn/eschborn/engine/LoadRule" ∧ Fld Z h a "com/example/eschborn/eschborn/engine/LoadRule" "window" "J" (.long p1) ∧ Fld Z h a "com/example/eschborn/eschborn/engine/LoadRule" "bucket" "J" (.long p2) ∧ Fld Z h a "com/example/eschborn/eschborn/engine/LoadRule" "l1" "J" (.long p3) ∧ Fld Z h a "com/example/eschborn/eschborn/engine/LoadRule" "l2" "J" (.long p4) ∧ Fld Z h a "com/example/eschborn/eschborn/engine/LoadRule" "tolerance" "J" (.long p5) ∧ Fld Z h a "com/example/eschborn/eschborn/engine/LoadRule" "cooldown" "J" (.long p6)
theorem own_pn2 : plainName "com/example/eschborn/eschborn/engine/LoadRule" = true := by first | (simp [plainName, overriddenIn]; done) | decide +kernel
theorem own_pd2 : parseMethodDescriptor "()V" = some ⟨[], none⟩ := by decide +kernel
theorem d1_0 : decode prog_10_method_1_code 0 = .ok (.aload_n 0, 1) := by decide +kernel
theorem d1_1 : decode prog_10_method_1_code 1 = .ok (.invokespecial 1, 3) := by decide +kernel
theorem d1_4 : decode prog_10_method_1_code 4 = .ok (.lload_n 3, 1) := by decide +kernel
theorem d1_5 : decode prog_10_method_1_code 5 = .ok (.lconst 0, 1) := by decide +kernel
theorem d1_6 : decode prog_10_method_1_code 6 = .ok (.lcmp, 1) := by decide +kernel
theorem d1_7 : decode prog_10_method_1_code 7 = .ok (.ifCond .gt 13, 3) := by decide +kernel
theorem d1_20 : decode prog_10_method_1_code 20 = .ok (.lload_n 1, 1) := by decide +kernel
theorem d1_21 : decode prog_10_method_1_code 21 = .ok (.lconst 0, 1) := by decide +kernel
theorem d1_22 : decode prog_10_method_1_code 22 = .ok (.lcmp, 1) := by decide +kernel
theorem d1_23 : decode prog_10_method_1_code 23 = .ok (.ifCond .gt 13, 3) := by decide +kernel
theorem d1_36 : decode prog_10_method_1_code 36 = .ok (.lload_n 1, 1) := by decide +kernel
theorem d1_37 : decode prog_10_method_1_code 37 = .ok (.lload_n 3, 1) := by decide +kernel
theorem d1_38 : decode prog_10_method_1_code 38 = .ok (.lrem, 1) := by decide +kernel
theorem d1_39 : decode prog_10_method_1_code 39 = .ok (.lconst 0, 1) := by decide +kernel
theorem d1_40 : decode prog_10_method_1_code 40 = .ok (.lcmp, 1) := by decide +kernel
theorem d1_41 : decode prog_10_method_1_code 41 = .ok (.ifCond .eq 13, 3) := by decide +kernel
theorem d1_54 : decode prog_10_method_1_code 54 = .ok (.lload_n 1, 1) := by decide +kernel
theorem d1_55 : decode prog_10_method_1_code 55 = .ok (.lload_n 3, 1) := by decide +kernel
theorem d1_56 : decode prog_10_method_1_code 56 = .ok (.ldiv, 1) := by decide +kernel
theorem d1_57 : decode prog_10_method_1_code 57 = .ok (.ldc2_w 20, 3) := by decide +kernel
theorem d1_60 : decode prog_10_method_1_code 60 = .ok (.lcmp, 1) := by decide +kernel
theorem d1_61 : decode prog_10_method_1_code 61 = .ok (.ifCond .le 19, 3) := by decide +kernel
theorem d1_80 : decode prog_10_method_1_code 80 = .ok (.lload 5, 2) := by decide +kernel
theorem d1_82 : decode prog_10_method_1_code 82 = .ok (.lconst 1, 1) := by decide +kernel
theorem d1_83 : decode prog_10_method_1_code 83 = .ok (.lcmp, 1) := by decide +kernel
theorem d1_84 : decode prog_10_method_1_code 84 = .ok (.ifCond .ge 18, 3) := by decide +kernel
theorem d1_102 : decode prog_10_method_1_code 102 = .ok (.lload 7, 2) := by decide +kernel
theorem d1_104 : decode prog_10_method_1_code 104 = .ok (.lconst 1, 1) := by decide +kernel
theorem d1_105 : decode prog_10_method_1_code 105 = .ok (.lcmp, 1) := by decide +kernel
theorem d1_106 : decode prog_10_method_1_code 106 = .ok (.ifCond .ge 18, 3) := by decide +kernel
theorem d1_124 : decode prog_10_method_1_code 124 = .ok (.lload 5, 2) := by decide +kernel
theorem d1_126 : decode prog_10_method_1_code 126 = .ok (.lload 7, 2) := by decide +kernel
theorem d1_128 : decode prog_10_method_1_code 128 = .ok (.lcmp, 1) := by decide +kernel
theorem d1_129 : decode prog_10_method_1_code 129 = .ok (.ifCond .le 20, 3) := by decide +kernel
theorem d1_149 : decode prog_10_method_1_code 149 = .ok (.lload 9, 2) := by decide +kernel
theorem d1_151 : decode prog_10_method_1_code 151 = .ok (.lconst 0, 1) := by decide +kernel
theorem d1_152 : decode prog_10_method_1_code 152 = .ok (.lcmp, 1) := by decide +kernel
theorem d1_153 : decode prog_10_method_1_code 153 = .ok (.ifCond .ge 13, 3) := by decide +kernel
theorem d1_166 : decode prog_10_method_1_code 166 = .ok (.lload 11, 2) := by decide +kernel
theorem d1_168 : decode prog_10_method_1_code 168 = .ok (.lconst 0, 1) := by decide +kernel
theorem d1_169 : decode prog_10_method_1_code 169 = .ok (.lcmp, 1) := by decide +kernel
theorem d1_170 : decode prog_10_method_1_code 170 = .ok (.ifCond .ge 13, 3) := by decide +kernel
theorem d1_183 : decode prog_10_method_1_code 183 = .ok (.lload_n 1, 1) := by decide +kernel
theorem d1_184 : decode prog_10_method_1_code 184 = .ok (.ldc2_w 37, 3) := by decide +kernel
theorem d1_187 : decode prog_10_method_1_code 187 = .ok (.lload 11, 2) := by decide +kernel
theorem d1_189 : decode prog_10_method_1_code 189 = .ok (.lsub, 1) := by decide +kernel
theorem d1_190 : decode prog_10_method_1_code 190 = .ok (.lload 9, 2) := by decide +kernel
theorem d1_192 : decode prog_10_method_1_code 192 = .ok (.lsub, 1) := by decide +kernel
theorem d1_193 : decode prog_10_method_1_code 193 = .ok (.ldc2_w 39, 3) := by decide +kernel
theorem d1_196 : decode prog_10_method_1_code 196 = .ok (.ldiv, 1) := by decide +kernel
theorem d1_197 : decode prog_10_method_1_code 197 = .ok (.lcmp, 1) := by decide +kernel
theorem d1_198 : decode prog_10_method_1_code 198 = .ok (.ifCond .le 13, 3) := by decide +kernel
theorem d1_211 : decode prog_10_method_1_code 211 = .ok (.aload_n 0, 1) := by decide +kernel
theorem d1_212 : decode prog_10_method_1_code 212 = .ok (.lload_n 1, 1) := by decide +kernel
theorem d1_213 : decode prog_10_method_1_code 213 = .ok (.putfield 43, 3) := by decide +kernel
theorem d1_216 : decode prog_10_method_1_code 216 = .ok (.aload_n 0, 1) := by decide +kernel
theorem d1_217 : decode prog_10_method_1_code 217 = .ok (.lload_n 3, 1) := by decide +kernel
theorem d1_218 : decode prog_10_method_1_code 218 = .ok (.putfield 47, 3) := by decide +kernel
theorem d1_221 : decode prog_10_method_1_code 221 = .ok (.aload_n 0, 1) := by decide +kernel
theorem d1_222 : decode prog_10_method_1_code 222 = .ok (.lload 5, 2) := by decide +kernel
theorem d1_224 : decode prog_10_method_1_code 224 = .ok (.putfield 50, 3) := by decide +kernel
theorem d1_227 : decode prog_10_method_1_code 227 = .ok (.aload_n 0, 1) := by decide +kernel
theorem d1_228 : decode prog_10_method_1_code 228 = .ok (.lload 7, 2) := by decide +kernel
theorem d1_230 : decode prog_10_method_1_code 230 = .ok (.putfield 53, 3) := by decide +kernel
theorem d1_233 : decode prog_10_method_1_code 233 = .ok (.aload_n 0, 1) := by decide +kernel
theorem d1_234 : decode prog_10_method_1_code 234 = .ok (.lload 9, 2) := by decide +kernel
theorem d1_236 : decode prog_10_method_1_code 236 = .ok (.putfield 56, 3) := by decide +kernel
theorem d1_239 : decode prog_10_method_1_code 239 = .ok (.aload_n 0, 1) := by decide +kernel
theorem d1_240 : decode prog_10_method_1_code 240 = .ok (.lload 11, 2) := by decide +kernel
theorem d1_242 : decode prog_10_method_1_code 242 = .ok (.putfield 59, 3) := by decide +kernel
theorem d1_245 : decode prog_10_method_1_code 245 = .ok (.return_, 1) := by decide +kernel
set_option maxRecDepth 65536 in
set_option maxHeartbeats 40000000 in
theorem rm1 (l : Launch) (Z : State) (a0 : Array Value) (hw : ∀ d ∈ tables_1, d.before a0 Z = true) (ws : List Jvm.Cond) (a : Addr) (p1 : Int64) (p2 : Int64) (p3 : Int64) (p4 : Int64) (p5 : Int64) (p6 : Int64) (r_w : Int64) (r_b : Int64) (r_1 : Int64) (r_2 : Int64) (r_t : Int64) (r_c : Int64) (h0 : Heap) (n0 : Nat) (Z0 : n0 ≤ h0.size) (E_a : Exa Z h0 a "com/example/eschborn/eschborn/engine/LoadRule") (F_a_window : Fld Z h0 a "com/example/eschborn/eschborn/engine/LoadRule" "window" "J" (.long r_w)) (F_a_bucket : Fld Z h0 a "com/example/eschborn/eschborn/engine/LoadRule" "bucket" "J" (.long r_b)) (F_a_l1 : Fld Z h0 a "com/example/eschborn/eschborn/engine/LoadRule" "l1" "J" (.long r_1)) (F_a_l2 : Fld Z h0 a "com/example/eschborn/eschborn/engine/LoadRule" "l2" "J" (.long r_2)) (F_a_tolerance : Fld Z h0 a "com/example/eschborn/eschborn/engine/LoadRule" "tolerance" "J" (.long r_t)) (F_a_cooldown : Fld Z h0 a "com/example/eschborn/eschborn/engine/LoadRule" "cooldown" "J" (.long r_c)) (g_a : n0 ≤ a) (q1 : (0 : Int64) < p2) (q2 : (0 : Int64) < p1) (q3 : (p1 % p2) = (0 : Int64)) (q4 : ¬ (1000000 : Int64) < (p1 / p2)) (q5 : ¬ p3 < (1 : Int64)) (q6 : ¬ p4 < (1 : Int64)) (q7 : ¬ p4 < p3) (q8 : ¬ p5 < (0 : Int64)) (q9 : ¬ p6 < (0 : Int64)) (q10 : ¬ ((((9223372036854775807 : Int64) - p6) - p5) / (2 : Int64)) < p1) (hnz : p2 ≠ 0) :
    MetFree l (⟨"com/example/eschborn/eschborn/engine/LoadRule", "<init>", "(JJJJJJ)V"⟩ : MethodName) (head1 (Jvm.Cond.code (⟨"com/example/eschborn/eschborn/engine/LoadRule", "<init>", "(JJJJJJ)V"⟩ : MethodName) prog_10_method_1_code 13 none :: ws) ({ frames := 2, cells := 0, slots := 0, locals := 24 } : Room)) (fun aa U => aa = #[(.ref a), (.long p1), (.long p2), (.long p3), (.long p4), (.long p5), (.long p6)] ∧ Z.Warmed39 U.vm ∧ U.heap = h0) (fun _ _ _ _ _ => True) (fun _ U o U' => ∃ v L, o = .returned v ∧ Q_rm1 Z a p1 p2 p3 p4 p5 p6 r_w r_b r_1 r_2 r_t r_c h0 n0 v U'.heap L ∧ FrameEnd U o U' L ({ frames := 2, cells := 0, slots := 0, locals := 24 } : Room).cells ({ frames := 2, cells := 0, slots := 0, locals := 24 } : Room).slots) := by
  refine MetFree.of_bodySF (plainFor_of_name own_pn2) hisR ?_
  intro p e s m args below meth c s₁ Bd hml0 hP hK
  obtain ⟨rfl, hZ, hh⟩ := hP
  have hx := Bd.exec
  have hby := Bd.bytes
  have hml : c.maxLocals = 13 := hml0
  have hlk : meth.locks = false := BodyLoose.notSynchronized Bd
  have hown : s.vm.findClass "com/example/eschborn/eschborn/engine/LoadRule" = some m.cls := findClass_of_methodNamed Bd.named
  have hnm := (name_of_methodNamed Bd.named Bd.method).1
  have X0 : Stand p l e ({ frames := 2, cells := 0, slots := 0, locals := 24 } : Room) s m #[(.ref a), (.long p1), (.long p2), (.long p3), (.long p4), (.long p5), (.long p6)] below meth c s₁ [] 0 0 := Stand.of_body Bd
  have e0 : s₁.heap = h0 := by rw [← hh, Bd.state]; rfl
  have N0 := Fr.nil n0
  show own_Go p e below s (Q_rm1 Z a p1 p2 p3 p4 p5 p6 r_w r_b r_1 r_2 r_t r_c h0 n0) 0 0 (s₁.setTop (entryFrame m #[(.ref a), (.long p1), (.long p2), (.long p3), (.long p4), (.long p5), (.long p6)] 13))
  refine own_go (B := s₁.setTop (mkF m 0 #[.val (.ref a), .val (.long p1), .second, .val (.long p2), .second, .val (.long p3), .second, .val (.long p4), .second, .val (.long p5), .second, .val (.long p6), .second] [])) (fun tgt cont => (XT.entry rfl).trans cont) ?_
  refine own_go (B := s₁.setTop (mkF m 1 #[.val (.ref a), .val (.long p1), .second, .val (.long p2), .second, .val (.long p3), .second, .val (.long p4), .second, .val (.long p5), .second, .val (.long p6), .second] [(.ref a)])) (fun tgt cont => ?_) ?_
  · refine XS.aloadN X0.here hx rfl (hb hby d1_0) rfl rfl ?_
    exact cont
  -- pc 1: Record.<init>
  obtain ⟨_, _, ⟨T1, L1, k1, n1⟩, -, X1, ⟨Lc1, hQ1, l1, y1, z1⟩, st1⟩ := X0.specialBack hx (y := (⟨"java/lang/Record", "<init>", "()V"⟩ : MethodName)) rfl hown (mvT hZ (hw _ (List.mem_of_getElem? (i := 11) rfl))) (mvT hZ (hw _ (List.mem_of_getElem? (i := 12) rfl))) (mvT hZ (hw _ (List.mem_of_getElem? (i := 15) rfl))) (by decide) (backOf (W := 0) (rm2 l Z a0 hw [] a h0 n0 Z0 E_a) hZ (hw _ (List.mem_of_getElem? (i := 15) rfl)) (hw _ (List.mem_of_getElem? (i := 14) rfl)) (by decide) (by decide)) (g := (mkF m 1 #[.val (.ref a), .val (.long p1), .second, .val (.long p2), .second, .val (.long p3), .second, .val (.long p4), .second, .val (.long p5), .second, .val (.long p6), .second] [(.ref a)])) rfl (by rw [hml]; rfl) (Steps.refl _) (a := a) (argsL := []) (rest := []) (lenOf own_pd2 rfl) rfl (by show 2 * 0 + _ ≤ _; exact Nat.le_of_eq rfl) (hb hby d1_1) (fun _ _ => ⟨rfl, e0, (by decide : 0 + 0 ≤ _), (by decide : 0 + 0 ≤ _)⟩)
  dsimp only [Pt.U, Pt.locs, Pt.cells, Pt.slots] at X1 l1 y1 z1 st1 hQ1
  subst l1 y1 z1
  obtain ⟨rfl, N1q, e1⟩ := hQ1
  have N1 := Fr.app N0 N1q
  refine own_go (fun tgt cont => st1.trans cont) ?_
  show own_Go p e below s (Q_rm1 Z a p1 p2 p3 p4 p5 p6 r_w r_b r_1 r_2 r_t r_c h0 n0) 0 0 (T1.setTop (mkF m 4 #[.val (.ref a), .val (.long p1), .second, .val (.long p2), .second, .val (.long p3), .second, .val (.long p4), .second, .val (.long p5), .second, .val (.long p6), .second] []))
  refine own_go (B := T1.setTop (mkF m 38 #[.val (.ref a), .val (.long p1), .second, .val (.long p2), .second, .val (.long p3), .second, .val (.long p4), .second, .val (.long p5), .second, .val (.long p6), .second] [(.long p2), (.long p1)])) (fun tgt cont => ?_) ?_
  · refine XS.lloadN X1.here hx rfl (hb hby d1_4) rfl ?_
    refine XT.lconstV X1.here hx rfl (0 : Int64) (hb hby d1_5) rfl ?_
    refine XT.lcmp X1.here hx rfl (hb hby d1_6) rfl ?_
    refine XS.ifYes X1.here hx rfl (pc0 := 7) (pc' := 20) rfl (hb hby d1_7) rfl (XT.ll_gt_t q1) (by decide) (by decide) ?_
    refine XS.lloadN X1.here hx rfl (hb hby d1_20) rfl ?_
    refine XT.lconstV X1.here hx rfl (0 : Int64) (hb hby d1_21) rfl ?_
    refine XT.lcmp X1.here hx rfl (hb hby d1_22) rfl ?_
    refine XS.ifYes X1.here hx rfl (pc0 := 23) (pc' := 36) rfl (hb hby d1_23) rfl (XT.ll_gt_t q2) (by decide) (by decide) ?_
    refine XS.lloadN X1.here hx rfl (hb hby d1_36) rfl ?_
    refine XS.lloadN X1.here hx rfl (hb hby d1_37) rfl ?_
    exact cont
  refine own_go (B := T1.setTop (mkF m 82 #[.val (.ref a), .val (.long p1), .second, .val (.long p2), .second, .val (.long p3), .second, .val (.long p4), .second, .val (.long p5), .second, .val (.long p6), .second] [(.long p3)])) (fun tgt cont => ?_) ?_
  · refine own_lrem X1.here hx rfl (hb hby d1_38) rfl hnz ?_
    refine XT.lconstV X1.here hx rfl (0 : Int64) (hb hby d1_39) rfl ?_
    refine XT.lcmp X1.here hx rfl (hb hby d1_40) rfl ?_
    refine XS.ifYes X1.here hx rfl (pc0 := 41) (pc' := 54) rfl (hb hby d1_41) rfl (XT.ll_eq_t q3) (by decide) (by decide) ?_
    refine XS.lloadN X1.here hx rfl (hb hby d1_54) rfl ?_
    refine XS.lloadN X1.here hx rfl (hb hby d1_55) rfl ?_
    refine XS.ldiv X1.here hx rfl (hb hby d1_56) rfl hnz ?_
    refine Stand.ldc2J X1 hx hown (mvT hZ (hw _ (List.mem_of_getElem? (i := 19) rfl))) rfl (hb hby d1_57) ?_
    refine XT.lcmp X1.here hx rfl (hb hby d1_60) rfl ?_
    refine XS.ifYes X1.here hx rfl (pc0 := 61) (pc' := 80) rfl (hb hby d1_61) rfl (XT.ll_le_t q4) (by decide) (by decide) ?_
    refine XS.lload X1.here hx rfl (hb hby d1_80) rfl ?_
    exact cont
  refine own_go (B := T1.setTop (mkF m 129 #[.val (.ref a), .val (.long p1), .second, .val (.long p2), .second, .val (.long p3), .second, .val (.long p4), .second, .val (.long p5), .second, .val (.long p6), .second] [(.int (XT.cmpL p3 p4))])) (fun tgt cont => ?_) ?_
  · refine XT.lconstV X1.here hx rfl (1 : Int64) (hb hby d1_82) rfl ?_
    refine XT.lcmp X1.here hx rfl (hb hby d1_83) rfl ?_
    refine XS.ifYes X1.here hx rfl (pc0 := 84) (pc' := 102) rfl (hb hby d1_84) rfl (XT.ll_ge_t q5) (by decide) (by decide) ?_
    refine XS.lload X1.here hx rfl (hb hby d1_102) rfl ?_
    refine XT.lconstV X1.here hx rfl (1 : Int64) (hb hby d1_104) rfl ?_
    refine XT.lcmp X1.here hx rfl (hb hby d1_105) rfl ?_
    refine XS.ifYes X1.here hx rfl (pc0 := 106) (pc' := 124) rfl (hb hby d1_106) rfl (XT.ll_ge_t q6) (by decide) (by decide) ?_
    refine XS.lload X1.here hx rfl (hb hby d1_124) rfl ?_
    refine XS.lload X1.here hx rfl (hb hby d1_126) rfl ?_
    refine XT.lcmp X1.here hx rfl (hb hby d1_128) rfl ?_
    exact cont
  refine own_go (B := T1.setTop (mkF m 184 #[.val (.ref a), .val (.long p1), .second, .val (.long p2), .second, .val (.long p3), .second, .val (.long p4), .second, .val (.long p5), .second, .val (.long p6), .second] [(.long p1)])) (fun tgt cont => ?_) ?_
  · refine XS.ifYes X1.here hx rfl (pc0 := 129) (pc' := 149) rfl (hb hby d1_129) rfl (XT.ll_le_t q7) (by decide) (by decide) ?_
    refine XS.lload X1.here hx rfl (hb hby d1_149) rfl ?_
    refine XT.lconstV X1.here hx rfl (0 : Int64) (hb hby d1_151) rfl ?_
    refine XT.lcmp X1.here hx rfl (hb hby d1_152) rfl ?_
    refine XS.ifYes X1.here hx rfl (pc0 := 153) (pc' := 166) rfl (hb hby d1_153) rfl (XT.ll_ge_t q8) (by decide) (by decide) ?_
    refine XS.lload X1.here hx rfl (hb hby d1_166) rfl ?_
    refine XT.lconstV X1.here hx rfl (0 : Int64) (hb hby d1_168) rfl ?_
    refine XT.lcmp X1.here hx rfl (hb hby d1_169) rfl ?_
    refine XS.ifYes X1.here hx rfl (pc0 := 170) (pc' := 183) rfl (hb hby d1_170) rfl (XT.ll_ge_t q9) (by decide) (by decide) ?_
    refine XS.lloadN X1.here hx rfl (hb hby d1_183) rfl ?_
    exact cont
  refine own_go (B := T1.setTop (mkF m 212 #[.val (.ref a), .val (.long p1), .second, .val (.long p2), .second, .val (.long p3), .second, .val (.long p4), .second, .val (.long p5), .second, .val (.long p6), .second] [(.ref a)])) (fun tgt cont => ?_) ?_
  · refine Stand.ldc2J X1 hx hown (mvT hZ (hw _ (List.mem_of_getElem? (i := 20) rfl))) rfl (hb hby d1_184) ?_
    refine XS.lload X1.here hx rfl (hb hby d1_187) rfl ?_
    refine XS.lsub X1.here hx rfl (hb hby d1_189) rfl ?_
    refine XS.lload X1.here hx rfl (hb hby d1_190) rfl ?_
    refine XS.lsub X1.here hx rfl (hb hby d1_192) rfl ?_
    refine Stand.ldc2J X1 hx hown (mvT hZ (hw _ (List.mem_of_getElem? (i := 21) rfl))) rfl (hb hby d1_193) ?_
    refine XS.ldiv X1.here hx rfl (hb hby d1_196) rfl (by decide) ?_
    refine XT.lcmp X1.here hx rfl (hb hby d1_197) rfl ?_
    refine XS.ifYes X1.here hx rfl (pc0 := 198) (pc' := 211) rfl (hb hby d1_198) rfl (XT.ll_le_t q10) (by decide) (by decide) ?_
    refine XS.aloadN X1.here hx rfl (hb hby d1_211) rfl rfl ?_
    exact cont
  refine own_go (B := T1.setTop (mkF m 213 #[.val (.ref a), .val (.long p1), .second, .val (.long p2), .second, .val (.long p3), .second, .val (.long p4), .second, .val (.long p5), .second, .val (.long p6), .second] [(.long p1), (.ref a)])) (fun tgt cont => ?_) ?_
  · refine XS.lloadN X1.here hx rfl (hb hby d1_212) rfl ?_
    exact cont
  obtain ⟨T2, h2, X2, e2, W2, st2⟩ := putF X1 hx hZ hown (host := "") (Or.inl (hw _ (List.mem_of_getElem? (i := 22) rfl))) Via.refl e1 F_a_window E_a (Or.inr ⟨(hw _ (List.mem_of_getElem? (i := 23) rfl)), rfl, hnm⟩) (hw _ (List.mem_of_getElem? (i := 6) rfl)) (ty := .long) (by decide) rfl rfl (g := (mkF m 213 #[.val (.ref a), .val (.long p1), .second, .val (.long p2), .second, .val (.long p3), .second, .val (.long p4), .second, .val (.long p5), .second, .val (.long p6), .second] [(.long p1), (.ref a)])) rfl rfl (hb hby d1_213)
  have fw2 := F_a_window.same W2
  have N2 := Fr.snoc X2 N1 g_a
  have kk2 : Keep h0 h2 [a] := (Keep.refl h0 [a]).wr W2 (Or.inl (List.mem_of_getElem? (i := 0) rfl))
  have zp2 : n0 ≤ h2.size := Nat.le_trans Z0 kk2.1
  refine own_go (fun tgt cont => st2 tgt cont) ?_
  show own_Go p e below s (Q_rm1 Z a p1 p2 p3 p4 p5 p6 r_w r_b r_1 r_2 r_t r_c h0 n0) 0 0 (T2.setTop (mkF m 216 #[.val (.ref a), .val (.long p1), .second, .val (.long p2), .second, .val (.long p3), .second, .val (.long p4), .second, .val (.long p5), .second, .val (.long p6), .second] []))
  refine own_go (B := T2.setTop (mkF m 218 #[.val (.ref a), .val (.long p1), .second, .val (.long p2), .second, .val (.long p3), .second, .val (.long p4), .second, .val (.long p5), .second, .val (.long p6), .second] [(.long p2), (.ref a)])) (fun tgt cont => ?_) ?_
  · refine XS.aloadN X2.here hx rfl (hb hby d1_216) rfl rfl ?_
    refine XS.lloadN X2.here hx rfl (hb hby d1_217) rfl ?_
    exact cont
  have f4 := (F_a_bucket.other W2 (Or.inr (slot_ne (t := .long) (t' := .long) (Or.inr (hw _ (List.mem_of_getElem? (i := 25) rfl))) (Or.inr (hw _ (List.mem_of_getElem? (i := 23) rfl))) (by decide) (by decide) (by decide))))
  have f5 := (E_a.wr W2)
  obtain ⟨T3, h3, X3, e3, W3, st3⟩ := putF X2 hx hZ hown (host := "") (Or.inl (hw _ (List.mem_of_getElem? (i := 24) rfl))) Via.refl e2 f4 f5 (Or.inr ⟨(hw _ (List.mem_of_getElem? (i := 25) rfl)), rfl, hnm⟩) (hw _ (List.mem_of_getElem? (i := 6) rfl)) (ty := .long) (by decide) rfl rfl (g := (mkF m 218 #[.val (.ref a), .val (.long p1), .second, .val (.long p2), .second, .val (.long p3), .second, .val (.long p4), .second, .val (.long p5), .second, .val (.long p6), .second] [(.long p2), (.ref a)])) rfl rfl (hb hby d1_218)
  have fw3 := f4.same W3
  have N3 := Fr.snoc X3 N2 g_a
  have kk3 : Keep h0 h3 [a] := kk2.wr W3 (Or.inl (List.mem_of_getElem? (i := 0) rfl))
  have zp3 : n0 ≤ h3.size := Nat.le_trans Z0 kk3.1
  refine own_go (fun tgt cont => st3 tgt cont) ?_
  show own_Go p e below s (Q_rm1 Z a p1 p2 p3 p4 p5 p6 r_w r_b r_1 r_2 r_t r_c h0 n0) 0 0 (T3.setTop (mkF m 221 #[.val (.ref a), .val (.long p1), .second, .val (.long p2), .second, .val (.long p3), .second, .val (.long p4), .second, .val (.long p5), .second, .val (.long p6), .second] []))
  refine own_go (B := T3.setTop (mkF m 224 #[.val (.ref a), .val (.long p1), .second, .val (.long p2), .second, .val (.long p3), .second, .val (.long p4), .second, .val (.long p5), .second, .val (.long p6), .second] [(.long p3), (.ref a)])) (fun tgt cont => ?_) ?_
  · refine XS.aloadN X3.here hx rfl (hb hby d1_221) rfl rfl ?_
    refine XS.lload X3.here hx rfl (hb hby d1_222) rfl ?_
    exact cont
  have f7 := ((F_a_l1.other W2 (Or.inr (slot_ne (t := .long) (t' := .long) (Or.inr (hw _ (List.mem_of_getElem? (i := 27) rfl))) (Or.inr (hw _ (List.mem_of_getElem? (i := 23) rfl))) (by decide) (by decide) (by decide)))).other W3 (Or.inr (slot_ne (t := .long) (t' := .long) (Or.inr (hw _ (List.mem_of_getElem? (i := 27) rfl))) (Or.inr (hw _ (List.mem_of_getElem? (i := 25) rfl))) (by decide) (by decide) (by decide))))
  have f8 := (f5.wr W3)
  obtain ⟨T6, h6, X6, e6, W6, st6⟩ := putF X3 hx hZ hown (host := "") (Or.inl (hw _ (List.mem_of_getElem? (i := 26) rfl))) Via.refl e3 f7 f8 (Or.inr ⟨(hw _ (List.mem_of_getElem? (i := 27) rfl)), rfl, hnm⟩) (hw _ (List.mem_of_getElem? (i := 6) rfl)) (ty := .long) (by decide) rfl rfl (g := (mkF m 224 #[.val (.ref a), .val (.long p1), .second, .val (.long p2), .second, .val (.long p3), .second, .val (.long p4), .second, .val (.long p5), .second, .val (.long p6), .second] [(.long p3), (.ref a)])) rfl rfl (hb hby d1_224)
  have fw6 := f7.same W6
  have N6 := Fr.snoc X6 N3 g_a
  have kk6 : Keep h0 h6 [a] := kk3.wr W6 (Or.inl (List.mem_of_getElem? (i := 0) rfl))
  have zp6 : n0 ≤ h6.size := Nat.le_trans Z0 kk6.1
  refine own_go (fun tgt cont => st6 tgt cont) ?_
  show own_Go p e below s (Q_rm1 Z a p1 p2 p3 p4 p5 p6 r_w r_b r_1 r_2 r_t r_c h0 n0) 0 0 (T6.setTop (mkF m 227 #[.val (.ref a), .val (.long p1), .second, .val (.long p2), .second, .val (.long p3), .second, .val (.long p4), .second, .val (.long p5), .second, .val (.long p6), .second] []))
  refine own_go (B := T6.setTop (mkF m 230 #[.val (.ref a), .val (.long p1), .second, .val (.long p2), .second, .val (.long p3), .second, .val (.long p4), .second, .val (.long p5), .second, .val (.long p6), .second] [(.long p4), (.ref a)])) (fun tgt cont => ?_) ?_
  · refine XS.aloadN X6.here hx rfl (hb hby d1_227) rfl rfl ?_
    refine XS.lload X6.here hx rfl (hb hby d1_228) rfl ?_
    exact cont
  have f10 := (((F_a_l2.other W2 (Or.inr (slot_ne (t := .long) (t' := .long) (Or.inr (hw _ (List.mem_of_getElem? (i := 29) rfl))) (Or.inr (hw _ (List.mem_of_getElem? (i := 23) rfl))) (by decide) (by decide) (by decide)))).other W3 (Or.inr (slot_ne (t := .long) (t' := .long) (Or.inr (hw _ (List.mem_of_getElem? (i := 29) rfl))) (Or.inr (hw _ (List.mem_of_getElem? (i := 25) rfl))) (by decide) (by decide) (by decide)))).other W6 (Or.inr (slot_ne (t := .long) (t' := .long) (Or.inr (hw _ (List.mem_of_getElem? (i := 29) rfl))) (Or.inr (hw _ (List.mem_of_getElem? (i := 27) rfl))) (by decide) (by decide) (by decide))))
  have f11 := (f8.wr W6)
  obtain ⟨T9, h9, X9, e9, W9, st9⟩ := putF X6 hx hZ hown (host := "") (Or.inl (hw _ (List.mem_of_getElem? (i := 28) rfl))) Via.refl e6 f10 f11 (Or.inr ⟨(hw _ (List.mem_of_getElem? (i := 29) rfl)), rfl, hnm⟩) (hw _ (List.mem_of_getElem? (i := 6) rfl)) (ty := .long) (by decide) rfl rfl (g := (mkF m 230 #[.val (.ref a), .val (.long p1), .second, .val (.long p2), .second, .val (.long p3), .second, .val (.long p4), .second, .val (.long p5), .second, .val (.long p6), .second] [(.long p4), (.ref a)])) rfl rfl (hb hby d1_230)
  have fw9 := f10.same W9
  have N9 := Fr.snoc X9 N6 g_a
  have kk9 : Keep h0 h9 [a] := kk6.wr W9 (Or.inl (List.mem_of_getElem? (i := 0) rfl))
  have zp9 : n0 ≤ h9.size := Nat.le_trans Z0 kk9.1
  refine own_go (fun tgt cont => st9 tgt cont) ?_
  show own_Go p e below s (Q_rm1 Z a p1 p2 p3 p4 p5 p6 r_w r_b r_1 r_2 r_t r_c h0 n0) 0 0 (T9.setTop (mkF m 233 #[.val (.ref a), .val (.long p1), .second, .val (.long p2), .second, .val (.long p3), .second, .val (.long p4), .second, .val (.long p5), .second, .val (.long p6), .second] []))
  refine own_go (B := T9.setTop (mkF m 236 #[.val (.ref a), .val (.long p1), .second, .val (.long p2), .second, .val (.long p3), .second, .val (.long p4), .second, .val (.long p5), .second, .val (.long p6), .second] [(.long p5), (.ref a)])) (fun tgt cont => ?_) ?_
  · refine XS.aloadN X9.here hx rfl (hb hby d1_233) rfl rfl ?_
    refine XS.lload X9.here hx rfl (hb hby d1_234) rfl ?_
    exact cont
  have f13 := ((((F_a_tolerance.other W2 (Or.inr (slot_ne (t := .long) (t' := .long) (Or.inr (hw _ (List.mem_of_getElem? (i := 31) rfl))) (Or.inr (hw _ (List.mem_of_getElem? (i := 23) rfl))) (by decide) (by decide) (by decide)))).other W3 (Or.inr (slot_ne (t := .long) (t' := .long) (Or.inr (hw _ (List.mem_of_getElem? (i := 31) rfl))) (Or.inr (hw _ (List.mem_of_getElem? (i := 25) rfl))) (by decide) (by decide) (by decide)))).other W6 (Or.inr (slot_ne (t := .long) (t' := .long) (Or.inr (hw _ (List.mem_of_getElem? (i := 31) rfl))) (Or.inr (hw _ (List.mem_of_getElem? (i := 27) rfl))) (by decide) (by decide) (by decide)))).other W9 (Or.inr (slot_ne (t := .long) (t' := .long) (Or.inr (hw _ (List.mem_of_getElem? (i := 31) rfl))) (Or.inr (hw _ (List.mem_of_getElem? (i := 29) rfl))) (by decide) (by decide) (by decide))))
  have f14 := (f11.wr W9)
  obtain ⟨T12, h12, X12, e12, W12, st12⟩ := putF X9 hx hZ hown (host := "") (Or.inl (hw _ (List.mem_of_getElem? (i := 30) rfl))) Via.refl e9 f13 f14 (Or.inr ⟨(hw _ (List.mem_of_getElem? (i := 31) rfl)), rfl, hnm⟩) (hw _ (List.mem_of_getElem? (i := 6) rfl)) (ty := .long) (by decide) rfl rfl (g := (mkF m 236 #[.val (.ref a), .val (.long p1), .second, .val (.long p2), .second, .val (.long p3), .second, .val (.long p4), .second, .val (.long p5), .second, .val (.long p6), .second] [(.long p5), (.ref a)])) rfl rfl (hb hby d1_236)
  have fw12 := f13.same W12
  have N12 := Fr.snoc X12 N9 g_a
  have kk12 : Keep h0 h12 [a] := kk9.wr W12 (Or.inl (List.mem_of_getElem? (i := 0) rfl))
  have zp12 : n0 ≤ h12.size := Nat.le_trans Z0 kk12.1
  refine own_go (fun tgt cont => st12 tgt cont) ?_
  show own_Go p e below s (Q_rm1 Z a p1 p2 p3 p4 p5 p6 r_w r_b r_1 r_2 r_t r_c h0 n0) 0 0 (T12.setTop (mkF m 239 #[.val (.ref a), .val (.long p1), .second, .val (.long p2), .second, .val (.long p3), .second, .val (.long p4), .second, .val (.long p5), .second, .val (.long p6), .second] []))
  refine own_go (B := T12.setTop (mkF m 242 #[.val (.ref a), .val (.long p1), .second, .val (.long p2), .second, .val (.long p3), .second, .val (.long p4), .second, .val (.long p5), .second, .val (.long p6), .second] [(.long p6), (.ref a)])) (fun tgt cont => ?_) ?_
  · refine XS.aloadN X12.here hx rfl (hb hby d1_239) rfl rfl ?_
    refine XS.lload X12.here hx rfl (hb hby d1_240) rfl ?_
    exact cont
  have f16 := (((((F_a_cooldown.other W2 (Or.inr (slot_ne (t := .long) (t' := .long) (Or.inr (hw _ (List.mem_of_getElem? (i := 33) rfl))) (Or.inr (hw _ (List.mem_of_getElem? (i := 23) rfl))) (by decide) (by decide) (by decide)))).other W3 (Or.inr (slot_ne (t := .long) (t' := .long) (Or.inr (hw _ (List.mem_of_getElem? (i := 33) rfl))) (Or.inr (hw _ (List.mem_of_getElem? (i := 25) rfl))) (by decide) (by decide) (by decide)))).other W6 (Or.inr (slot_ne (t := .long) (t' := .long) (Or.inr (hw _ (List.mem_of_getElem? (i := 33) rfl))) (Or.inr (hw _ (List.mem_of_getElem? (i := 27) rfl))) (by decide) (by decide) (by decide)))).other W9 (Or.inr (slot_ne (t := .long) (t' := .long) (Or.inr (hw _ (List.mem_of_getElem? (i := 33) rfl))) (Or.inr (hw _ (List.mem_of_getElem? (i := 29) rfl))) (by decide) (by decide) (by decide)))).other W12 (Or.inr (slot_ne (t := .long) (t' := .long) (Or.inr (hw _ (List.mem_of_getElem? (i := 33) rfl))) (Or.inr (hw _ (List.mem_of_getElem? (i := 31) rfl))) (by decide) (by decide) (by decide))))
  have f17 := (f14.wr W12)
  obtain ⟨T15, h15, X15, e15, W15, st15⟩ := putF X12 hx hZ hown (host := "") (Or.inl (hw _ (List.mem_of_getElem? (i := 32) rfl))) Via.refl e12 f16 f17 (Or.inr ⟨(hw _ (List.mem_of_getElem? (i := 33) rfl)), rfl, hnm⟩) (hw _ (List.mem_of_getElem? (i := 6) rfl)) (ty := .long) (by decide) rfl rfl (g := (mkF m 242 #[.val (.ref a), .val (.long p1), .second, .val (.long p2), .second, .val (.long p3), .second, .val (.long p4), .second, .val (.long p5), .second, .val (.long p6), .second] [(.long p6), (.ref a)])) rfl rfl (hb hby d1_242)
  have fw15 := f16.same W15
  have N15 := Fr.snoc X15 N12 g_a
  have kk15 : Keep h0 h15 [a] := kk12.wr W15 (Or.inl (List.mem_of_getElem? (i := 0) rfl))
  have zp15 : n0 ≤ h15.size := Nat.le_trans Z0 kk15.1
  refine own_go (fun tgt cont => st15 tgt cont) ?_
  show own_Go p e below s (Q_rm1 Z a p1 p2 p3 p4 p5 p6 r_w r_b r_1 r_2 r_t r_c h0 n0) 0 0 (T15.setTop (mkF m 245 #[.val (.ref a), .val (.long p1), .second, .val (.long p2), .second, .val (.long p3), .second, .val (.long p4), .second, .val (.long p5), .second, .val (.long p6), .second] []))
  refine own_end X15 (v := none) (fun _ => rfl) hlk ?_ (by decide) (by decide) (fun fs hl => X15.returnOut hx Bd.returns (hb hby d1_245) hl)
  have f18 := (f17.wr W15)
  have f19 := (((((fw2.other W3 (Or.inr (slot_ne (t := .long) (t' := .long) (Or.inr (hw _ (List.mem_of_getElem? (i := 23) rfl))) (Or.inr (hw _ (List.mem_of_getElem? (i := 25) rfl))) (by decide) (by decide) (by decide)))).other W6 (Or.inr (slot_ne (t := .long) (t' := .long) (Or.inr (hw _ (List.mem_of_getElem? (i := 23) rfl))) (Or.inr (hw _ (List.mem_of_getElem? (i := 27) rfl))) (by decide) (by decide) (by decide)))).other W9 (Or.inr (slot_ne (t := .long) (t' := .long) (Or.inr (hw _ (List.mem_of_getElem? (i := 23) rfl))) (Or.inr (hw _ (List.mem_of_getElem? (i := 29) rfl))) (by decide) (by decide) (by decide)))).other W12 (Or.inr (slot_ne (t := .long) (t' := .long) (Or.inr (hw _ (List.mem_of_getElem? (i := 23) rfl))) (Or.inr (hw _ (List.mem_of_getElem? (i := 31) rfl))) (by decide) (by decide) (by decide)))).other W15 (Or.inr (slot_ne (t := .long) (t' := .long) (Or.inr (hw _ (List.mem_of_getElem? (i := 23) rfl))) (Or.inr (hw _ (List.mem_of_getElem? (i := 33) rfl))) (by decide) (by decide) (by decide))))
  have f20 := ((((fw3.other W6 (Or.inr (slot_ne (t := .long) (t' := .long) (Or.inr (hw _ (List.mem_of_getElem? (i := 25) rfl))) (Or.inr (hw _ (List.mem_of_getElem? (i := 27) rfl))) (by decide) (by decide) (by decide)))).other W9 (Or.inr (slot_ne (t := .long) (t' := .long) (Or.inr (hw _ (List.mem_of_getElem? (i := 25) rfl))) (Or.inr (hw _ (List.mem_of_getElem? (i := 29) rfl))) (by decide) (by decide) (by decide)))).other W12 (Or.inr (slot_ne (t := .long) (t' := .long) (Or.inr (hw _ (List.mem_of_getElem? (i := 25) rfl))) (Or.inr (hw _ (List.mem_of_getElem? (i := 31) rfl))) (by decide) (by decide) (by decide)))).other W15 (Or.inr (slot_ne (t := .long) (t' := .long) (Or.inr (hw _ (List.mem_of_getElem? (i := 25) rfl))) (Or.inr (hw _ (List.mem_of_getElem? (i := 33) rfl))) (by decide) (by decide) (by decide))))
  have f21 := (((fw6.other W9 (Or.inr (slot_ne (t := .long) (t' := .long) (Or.inr (hw _ (List.mem_of_getElem? (i := 27) rfl))) (Or.inr (hw _ (List.mem_of_getElem? (i := 29) rfl))) (by decide) (by decide) (by decide)))).other W12 (Or.inr (slot_ne (t := .long) (t' := .long) (Or.inr (hw _ (List.mem_of_getElem? (i := 27) rfl))) (Or.inr (hw _ (List.mem_of_getElem? (i := 31) rfl))) (by decide) (by decide) (by decide)))).other W15 (Or.inr (slot_ne (t := .long) (t' := .long) (Or.inr (hw _ (List.mem_of_getElem? (i := 27) rfl))) (Or.inr (hw _ (List.mem_of_getElem? (i := 33) rfl))) (by decide) (by decide) (by decide))))
  have f22 := ((fw9.other W12 (Or.inr (slot_ne (t := .long) (t' := .long) (Or.inr (hw _ (List.mem_of_getElem? (i := 29) rfl))) (Or.inr (hw _ (List.mem_of_getElem? (i := 31) rfl))) (by decide) (by decide) (by decide)))).other W15 (Or.inr (slot_ne (t := .long) (t' := .long) (Or.inr (hw _ (List.mem_of_getElem? (i := 29) rfl))) (Or.inr (hw _ (List.mem_of_getElem? (i := 33) rfl))) (by decide) (by decide) (by decide))))
  have f23 := (fw12.other W15 (Or.inr (slot_ne (t := .long) (t' := .long) (Or.inr (hw _ (List.mem_of_getElem? (i := 31) rfl))) (Or.inr (hw _ (List.mem_of_getElem? (i := 33) rfl))) (by decide) (by decide) (by decide))))
  rw [e15]
  exact ⟨rfl, N15, kk15, f18, f19, f20, f21, f22, f23, fw15⟩
def Q_rm5 (Z : State) (a : Addr) (r_b : Int64) (h0 : Heap) (n0 : Nat) (v : Option Value) (h : Heap) (L : List Loc) : Prop := v = some (.long r_b) ∧ Fr n0 L ∧ h = h0
theorem d5_0 : decode prog_10_method_8_code 0 = .ok (.aload_n 0, 1) := by decide +kernel
theorem d5_1 : decode prog_10_method_8_code 1 = .ok (.getfield 47, 3) := by decide +kernel
theorem d5_4 : decode prog_10_method_8_code 4 = .ok (.lreturn, 1) := by decide +kernel
set_option maxRecDepth 65536 in
set_option maxHeartbeats 40000000 in
theorem rm5 (l : Launch) (Z : State) (a0 : Array Value) (hw : ∀ d ∈ tables_1, d.before a0 Z = true) (ws : List Jvm.Cond) (a : Addr) (r_b : Int64) (h0 : Heap) (n0 : Nat) (Z0 : n0 ≤ h0.size) (E_a : Exa Z h0 a "com/example/eschborn/eschborn/engine/LoadRule") (F_a_bucket : Fld Z h0 a "com/example/eschborn/eschborn/engine/LoadRule" "bucket" "J" (.long r_b))  :
    MetFree l (⟨"com/example/eschborn/eschborn/engine/LoadRule", "bucket", "()J"⟩ : MethodName) (head1 (Jvm.Cond.code (⟨"com/example/eschborn/eschborn/engine/LoadRule", "bucket", "()J"⟩ : MethodName) prog_10_method_8_code 1 (some .long) :: ws) ({ frames := 0, cells := 0, slots := 0, locals := 0 } : Room)) (fun aa U => aa = #[(.ref a)] ∧ Z.Warmed39 U.vm ∧ U.heap = h0) (fun _ _ _ _ _ => True) (fun _ U o U' => ∃ v L, o = .returned v ∧ Q_rm5 Z a r_b h0 n0 v U'.heap L ∧ FrameEnd U o U' L ({ frames := 0, cells := 0, slots := 0, locals := 0 } : Room).cells ({ frames := 0, cells := 0, slots := 0, locals := 0 } : Room).slots) := by
  refine MetFree.of_bodySF (plainFor_of_name own_pn2) hisR ?_
  intro p e s m args below meth c s₁ Bd hml0 hP hK
  obtain ⟨rfl, hZ, hh⟩ := hP
  have hx := Bd.exec
  have hby := Bd.bytes
  have hml : c.maxLocals = 1 := hml0
  have hlk : meth.locks = false := BodyLoose.notSynchronized Bd
  have hown : s.vm.findClass "com/example/eschborn/eschborn/engine/LoadRule" = some m.cls := findClass_of_methodNamed Bd.named
  have hnm := (name_of_methodNamed Bd.named Bd.method).1
  have X0 : Stand p l e ({ frames := 0, cells := 0, slots := 0, locals := 0 } : Room) s m #[(.ref a)] below meth c s₁ [] 0 0 := Stand.of_body Bd
  have e0 : s₁.heap = h0 := by rw [← hh, Bd.state]; rfl
  have N0 := Fr.nil n0
  show own_Go p e below s (Q_rm5 Z a r_b h0 n0) 0 0 (s₁.setTop (entryFrame m #[(.ref a)] 1))
  refine own_go (B := s₁.setTop (mkF m 0 #[.val (.ref a)] [])) (fun tgt cont => (XT.entry rfl).trans cont) ?_
  refine own_go (B := s₁.setTop (mkF m 1 #[.val (.ref a)] [(.ref a)])) (fun tgt cont => ?_) ?_
  · refine XS.aloadN X0.here hx rfl (hb hby d5_0) rfl rfl ?_
    exact cont
  obtain ⟨T1, X1, e1, st1⟩ := getF X0 hx hZ hown (host := "") (Or.inl (hw _ (List.mem_of_getElem? (i := 24) rfl))) Via.refl e0 F_a_bucket (g := (mkF m 1 #[.val (.ref a)] [(.ref a)])) rfl rfl (hb hby d5_1)
  refine own_go (fun tgt cont => st1 tgt cont) ?_
  show own_Go p e below s (Q_rm5 Z a r_b h0 n0) 0 0 (T1.setTop (mkF m 4 #[.val (.ref a)] [(.long r_b)]))
  refine own_end X1 (v := some (.long r_b)) (fun h => by rw [Bd.returns] at h; cases h) hlk ?_ (by decide) (by decide) (fun fs hl => retOut X1 hx Bd.returns rfl (Or.inr (Or.inl ⟨rfl, rfl, _, rfl⟩)) (hb hby d5_4) hl)
  exact ⟨rfl, N0, e1⟩
def Q_rm6 (Z : State) (a : Addr) (r_w : Int64) (h0 : Heap) (n0 : Nat) (v : Option Value) (h : Heap) (L : List Loc) : Prop := v = some (.long r_w) ∧ Fr n0 L ∧ h = h0
theorem d6_0 : decode prog_10_method_7_code 0 = .ok (.aload_n 0, 1) := by decide +kernel
theorem d6_1 : decode prog_10_method_7_code 1 = .ok (.getfield 43, 3) := by decide +kernel
theorem d6_4 : decode prog_10_method_7_code 4 = .ok (.lreturn, 1) := by decide +kernel
set_option maxRecDepth 65536 in
set_option maxHeartbeats 40000000 in
theorem rm6 (l : Launch) (Z : State) (a0 : Array Value) (hw : ∀ d ∈ tables_1, d.before a0 Z = true) (ws : List Jvm.Cond) (a : Addr) (r_w : Int64) (h0 : Heap) (n0 : Nat) (Z0 : n0 ≤ h0.size) (E_a : Exa Z h0 a "com/example/eschborn/eschborn/engine/LoadRule") (F_a_window : Fld Z h0 a "com/example/eschborn/eschborn/engine/LoadRule" "window" "J" (.long r_w))  :
    MetFree l (⟨"com/example/eschborn/eschborn/engine/LoadRule", "window", "()J"⟩ : MethodName) (head1 (Jvm.Cond.code (⟨"com/example/eschborn/eschborn/engine/LoadRule", "window", "()J"⟩ : MethodName) prog_10_method_7_code 1 (some .long) :: ws) ({ frames := 0, cells := 0, slots := 0, locals := 0 } : Room)) (fun aa U => aa = #[(.ref a)] ∧ Z.Warmed39 U.vm ∧ U.heap = h0) (fun _ _ _ _ _ => True) (fun _ U o U' => ∃ v L, o = .returned v ∧ Q_rm6 Z a r_w h0 n0 v U'.heap L ∧ FrameEnd U o U' L ({ frames := 0, cells := 0, slots := 0, locals := 0 } : Room).cells ({ frames := 0, cells := 0, slots := 0, locals := 0 } : Room).slots) := by
  refine MetFree.of_bodySF (plainFor_of_name own_pn2) hisR ?_
  intro p e s m args below meth c s₁ Bd hml0 hP hK
  obtain ⟨rfl, hZ, hh⟩ := hP
  have hx := Bd.exec
  have hby := Bd.bytes
  have hml : c.maxLocals = 1 := hml0
  have hlk : meth.locks = false := BodyLoose.notSynchronized Bd
  have hown : s.vm.findClass "com/example/eschborn/eschborn/engine/LoadRule" = some m.cls := findClass_of_methodNamed Bd.named
  have hnm := (name_of_methodNamed Bd.named Bd.method).1
  have X0 : Stand p l e ({ frames := 0, cells := 0, slots := 0, locals := 0 } : Room) s m #[(.ref a)] below meth c s₁ [] 0 0 := Stand.of_body Bd
  have e0 : s₁.heap = h0 := by rw [← hh, Bd.state]; rfl
  have N0 := Fr.nil n0
  show own_Go p e below s (Q_rm6 Z a r_w h0 n0) 0 0 (s₁.setTop (entryFrame m #[(.ref a)] 1))
  refine own_go (B := s₁.setTop (mkF m 0 #[.val (.ref a)] [])) (fun tgt cont => (XT.entry rfl).trans cont) ?_
  refine own_go (B := s₁.setTop (mkF m 1 #[.val (.ref a)] [(.ref a)])) (fun tgt cont => ?_) ?_
  · refine XS.aloadN X0.here hx rfl (hb hby d6_0) rfl rfl ?_
    exact cont
  obtain ⟨T1, X1, e1, st1⟩ := getF X0 hx hZ hown (host := "") (Or.inl (hw _ (List.mem_of_getElem? (i := 22) rfl))) Via.refl e0 F_a_window (g := (mkF m 1 #[.val (.ref a)] [(.ref a)])) rfl rfl (hb hby d6_1)
  refine own_go (fun tgt cont => st1 tgt cont) ?_
  show own_Go p e below s (Q_rm6 Z a r_w h0 n0) 0 0 (T1.setTop (mkF m 4 #[.val (.ref a)] [(.long r_w)]))
  refine own_end X1 (v := some (.long r_w)) (fun h => by rw [Bd.returns] at h; cases h) hlk ?_ (by decide) (by decide) (fun fs hl => retOut X1 hx Bd.returns rfl (Or.inr (Or.inl ⟨rfl, rfl, _, rfl⟩)) (hb hby d6_4) hl)
  exact ⟨rfl, N0, e1⟩
def own_lrn_r (r_w : Int64) (r_b : Int64) : Int32 := ((r_w / r_b).toInt32)
def Q_rm7 (Z : State) (a : Addr) (r_w : Int64) (r_b : Int64) (h0 : Heap) (n0 : Nat) (v : Option Value) (h : Heap) (L : List Loc) : Prop := v = some (.int (own_lrn_r r_w r_b)) ∧ Fr n0 L ∧ h = h0
theorem d7_0 : decode prog_10_method_2_code 0 = .ok (.aload_n 0, 1) := by decide +kernel
theorem d7_1 : decode prog_10_method_2_code 1 = .ok (.getfield 43, 3) := by decide +kernel
theorem d7_4 : decode prog_10_method_2_code 4 = .ok (.aload_n 0, 1) := by decide +kernel
theorem d7_5 : decode prog_10_method_2_code 5 = .ok (.getfield 47, 3) := by decide +kernel
theorem d7_8 : decode prog_10_method_2_code 8 = .ok (.ldiv, 1) := by decide +kernel
theorem d7_9 : decode prog_10_method_2_code 9 = .ok (.l2i, 1) := by decide +kernel
theorem d7_10 : decode prog_10_method_2_code 10 = .ok (.ireturn, 1) := by decide +kernel
set_option maxRecDepth 65536 in
set_option maxHeartbeats 40000000 in
theorem rm7 (l : Launch) (Z : State) (a0 : Array Value) (hw : ∀ d ∈ tables_1, d.before a0 Z = true) (ws : List Jvm.Cond) (a : Addr) (r_w : Int64) (r_b : Int64) (h0 : Heap) (n0 : Nat) (Z0 : n0 ≤ h0.size) (E_a : Exa Z h0 a "com/example/eschborn/eschborn/engine/LoadRule") (F_a_window : Fld Z h0 a "com/example/eschborn/eschborn/engine/LoadRule" "window" "J" (.long r_w)) (F_a_bucket : Fld Z h0 a "com/example/eschborn/eschborn/engine/LoadRule" "bucket" "J" (.long r_b)) (hnz : r_b ≠ 0) :
    MetFree l (⟨"com/example/eschborn/eschborn/engine/LoadRule", "buckets", "()I"⟩ : MethodName) (head1 (Jvm.Cond.code (⟨"com/example/eschborn/eschborn/engine/LoadRule", "buckets", "()I"⟩ : MethodName) prog_10_method_2_code 1 (some .int) :: ws) ({ frames := 0, cells := 0, slots := 0, locals := 0 } : Room)) (fun aa U => aa = #[(.ref a)] ∧ Z.Warmed39 U.vm ∧ U.heap = h0) (fun _ _ _ _ _ => True) (fun _ U o U' => ∃ v L, o = .returned v ∧ Q_rm7 Z a r_w r_b h0 n0 v U'.heap L ∧ FrameEnd U o U' L ({ frames := 0, cells := 0, slots := 0, locals := 0 } : Room).cells ({ frames := 0, cells := 0, slots := 0, locals := 0 } : Room).slots) := by
  refine MetFree.of_bodySF (plainFor_of_name own_pn2) hisR ?_
  intro p e s m args below meth c s₁ Bd hml0 hP hK
  obtain ⟨rfl, hZ, hh⟩ := hP
  have hx := Bd.exec
  have hby := Bd.bytes
  have hml : c.maxLocals = 1 := hml0
  have hlk : meth.locks = false := BodyLoose.notSynchronized Bd
  have hown : s.vm.findClass "com/example/eschborn/eschborn/engine/LoadRule" = some m.cls := findClass_of_methodNamed Bd.named
  have hnm := (name_of_methodNamed Bd.named Bd.method).1
  have X0 : Stand p l e ({ frames := 0, cells := 0, slots := 0, locals := 0 } : Room) s m #[(.ref a)] below meth c s₁ [] 0 0 := Stand.of_body Bd
  have e0 : s₁.heap = h0 := by rw [← hh, Bd.state]; rfl
  have N0 := Fr.nil n0
  show own_Go p e below s (Q_rm7 Z a r_w r_b h0 n0) 0 0 (s₁.setTop (entryFrame m #[(.ref a)] 1))
  refine own_go (B := s₁.setTop (mkF m 0 #[.val (.ref a)] [])) (fun tgt cont => (XT.entry rfl).trans cont) ?_
  refine own_go (B := s₁.setTop (mkF m 1 #[.val (.ref a)] [(.ref a)])) (fun tgt cont => ?_) ?_
  · refine XS.aloadN X0.here hx rfl (hb hby d7_0) rfl rfl ?_
    exact cont
  obtain ⟨T1, X1, e1, st1⟩ := getF X0 hx hZ hown (host := "") (Or.inl (hw _ (List.mem_of_getElem? (i := 22) rfl))) Via.refl e0 F_a_window (g := (mkF m 1 #[.val (.ref a)] [(.ref a)])) rfl rfl (hb hby d7_1)
  refine own_go (fun tgt cont => st1 tgt cont) ?_
  show own_Go p e below s (Q_rm7 Z a r_w r_b h0 n0) 0 0 (T1.setTop (mkF m 4 #[.val (.ref a)] [(.long r_w)]))
  refine own_go (B := T1.setTop (mkF m 5 #[.val (.ref a)] [(.ref a), (.long r_w)])) (fun tgt cont => ?_) ?_
  · refine XS.aloadN X1.here hx rfl (hb hby d7_4) rfl rfl ?_
    exact cont
  obtain ⟨T2, X2, e2, st2⟩ := getF X1 hx hZ hown (host := "") (Or.inl (hw _ (List.mem_of_getElem? (i := 24) rfl))) Via.refl e1 F_a_bucket (g := (mkF m 5 #[.val (.ref a)] [(.ref a), (.long r_w)])) rfl rfl (hb hby d7_5)
  refine own_go (fun tgt cont => st2 tgt cont) ?_
  show own_Go p e below s (Q_rm7 Z a r_w r_b h0 n0) 0 0 (T2.setTop (mkF m 8 #[.val (.ref a)] [(.long r_b), (.long r_w)]))
  refine own_go (B := T2.setTop (mkF m 10 #[.val (.ref a)] [(.int ((r_w / r_b).toInt32))])) (fun tgt cont => ?_) ?_
  · refine XS.ldiv X2.here hx rfl (hb hby d7_8) rfl hnz ?_
    refine XS.l2i X2.here hx rfl (hb hby d7_9) rfl ?_
    exact cont
  refine own_end X2 (v := some (.int ((r_w / r_b).toInt32))) (fun h => by rw [Bd.returns] at h; cases h) hlk ?_ (by decide) (by decide) (fun fs hl => retI X2 hx Bd.returns (hb hby d7_10) hl)
  exact ⟨(by unfold own_lrn_r; exact rfl), N0, e2⟩
theorem own_nn {n : Nat} (h : n ≤ 8) : ¬ Int32.ofNat n < 0 := (own_inN (n := 9) (by omega) (by decide)).1
theorem own_cap {n : Nat} (h : n ≤ 8) : (Int32.ofNat n).toNatClampNeg ≤ 8 := by rw [own_toN (by omega)]; exact h
theorem own_rep {n : Nat} (h : n ≤ 8) : (List.replicate (Int32.ofNat n).toNatClampNeg (0 : Int64)) = List.replicate n 0 := by rw [own_toN (by omega)]
def own_bwi_totals (nn : Nat) : List Int64 := (List.replicate nn 0)
def Q_rm4 (Z : State) (a : Addr) (r : Addr) (r_w : Int64) (r_b : Int64) (nn : Nat) (h0 : Heap) (n0 : Nat) (v : Option Value) (h : Heap) (L : List Loc) : Prop := ∃ nb0 : Addr, v = none ∧ Fr n0 L ∧ Keep h0 h [a] ∧ Exa Z h a "com/example/eschborn/eschborn/engine/BucketWindow" ∧ Fld Z h a "com/example/eschborn/eschborn/engine/BucketWindow" "bucket" "J" (.long r_b) ∧ Fld Z h a "com/example/eschborn/eschborn/engine/BucketWindow" "window" "J" (.long r_w) ∧ Fld Z h a "com/example/eschborn/eschborn/engine/BucketWindow" "totals" "[J" (.ref nb0) ∧ Fld Z h a "com/example/eschborn/eschborn/engine/BucketWindow" "newest" "J" (.long (0 : Int64)) ∧ Fld Z h a "com/example/eschborn/eschborn/engine/BucketWindow" "newestNumber" "J" (.long (0 : Int64)) ∧ Fld Z h a "com/example/eschborn/eschborn/engine/BucketWindow" "newestSlot" "I" (.int (0 : Int32)) ∧ Fld Z h a "com/example/eschborn/eschborn/engine/BucketWindow" "load" "J" (.long (0 : Int64)) ∧ h0.size ≤ nb0 ∧ own_LA Z h nb0 (own_bwi_totals nn) ∧ Exa Z h nb0 "[J"
theorem own_pn3 : plainName "com/example/eschborn/eschborn/engine/BucketWindow" = true := by first | (simp [plainName, overriddenIn]; done) | decide +kernel
theorem own_pd3 : parseMethodDescriptor "()J" = some ⟨[], some .long⟩ := by decide +kernel
theorem own_pd4 : parseMethodDescriptor "()I" = some ⟨[], some .int⟩ := by decide +kernel
theorem d4_0 : decode prog_1_method_1_code 0 = .ok (.aload_n 0, 1) := by decide +kernel
theorem d4_1 : decode prog_1_method_1_code 1 = .ok (.invokespecial 1, 3) := by decide +kernel
theorem d4_4 : decode prog_1_method_1_code 4 = .ok (.aload_n 0, 1) := by decide +kernel
theorem d4_5 : decode prog_1_method_1_code 5 = .ok (.aload_n 1, 1) := by decide +kernel
theorem d4_6 : decode prog_1_method_1_code 6 = .ok (.invokevirtual 7, 3) := by decide +kernel
theorem d4_9 : decode prog_1_method_1_code 9 = .ok (.putfield 13, 3) := by decide +kernel
theorem d4_12 : decode prog_1_method_1_code 12 = .ok (.aload_n 0, 1) := by decide +kernel
theorem d4_13 : decode prog_1_method_1_code 13 = .ok (.aload_n 1, 1) := by decide +kernel
theorem d4_14 : decode prog_1_method_1_code 14 = .ok (.invokevirtual 18, 3) := by decide +kernel
theorem d4_17 : decode prog_1_method_1_code 17 = .ok (.putfield 21, 3) := by decide +kernel
theorem d4_20 : decode prog_1_method_1_code 20 = .ok (.aload_n 0, 1) := by decide +kernel
theorem d4_21 : decode prog_1_method_1_code 21 = .ok (.aload_n 1, 1) := by decide +kernel
theorem d4_22 : decode prog_1_method_1_code 22 = .ok (.invokevirtual 23, 3) := by decide +kernel
theorem d4_25 : decode prog_1_method_1_code 25 = .ok (.newarray .long, 2) := by decide +kernel
theorem d4_27 : decode prog_1_method_1_code 27 = .ok (.putfield 27, 3) := by decide +kernel
theorem d4_30 : decode prog_1_method_1_code 30 = .ok (.return_, 1) := by decide +kernel
set_option maxRecDepth 65536 in
set_option maxHeartbeats 40000000 in
theorem rm4 (l : Launch) (Z : State) (a0 : Array Value) (hw : ∀ d ∈ tables_1, d.before a0 Z = true) (ws : List Jvm.Cond) (a : Addr) (r : Addr) (r_w : Int64) (r_b : Int64) (nn : Nat) (h0 : Heap) (n0 : Nat) (Z0 : n0 ≤ h0.size) (E_a : Exa Z h0 a "com/example/eschborn/eschborn/engine/BucketWindow") (F_a_bucket : Fld Z h0 a "com/example/eschborn/eschborn/engine/BucketWindow" "bucket" "J" (.long (0 : Int64))) (F_a_window : Fld Z h0 a "com/example/eschborn/eschborn/engine/BucketWindow" "window" "J" (.long (0 : Int64))) (F_a_totals : Fld Z h0 a "com/example/eschborn/eschborn/engine/BucketWindow" "totals" "[J" .null) (F_a_newest : Fld Z h0 a "com/example/eschborn/eschborn/engine/BucketWindow" "newest" "J" (.long (0 : Int64))) (F_a_newestNumber : Fld Z h0 a "com/example/eschborn/eschborn/engine/BucketWindow" "newestNumber" "J" (.long (0 : Int64))) (F_a_newestSlot : Fld Z h0 a "com/example/eschborn/eschborn/engine/BucketWindow" "newestSlot" "I" (.int (0 : Int32))) (F_a_load : Fld Z h0 a "com/example/eschborn/eschborn/engine/BucketWindow" "load" "J" (.long (0 : Int64))) (g_a : n0 ≤ a) (E_r : Exa Z h0 r "com/example/eschborn/eschborn/engine/LoadRule") (F_r_window : Fld Z h0 r "com/example/eschborn/eschborn/engine/LoadRule" "window" "J" (.long r_w)) (F_r_bucket : Fld Z h0 r "com/example/eschborn/eschborn/engine/LoadRule" "bucket" "J" (.long r_b)) (hnz : r_b ≠ 0) (hn : own_lrn_r r_w r_b = Int32.ofNat nn) (h8 : nn ≤ 8) :
    MetFree l (⟨"com/example/eschborn/eschborn/engine/BucketWindow", "<init>", "(Lcom/example/eschborn/eschborn/engine/LoadRule;)V"⟩ : MethodName) (head1 (Jvm.Cond.code (⟨"com/example/eschborn/eschborn/engine/BucketWindow", "<init>", "(Lcom/example/eschborn/eschborn/engine/LoadRule;)V"⟩ : MethodName) prog_1_method_1_code 2 none :: ws) ({ frames := 1, cells := 1, slots := 8, locals := 13 } : Room)) (fun aa U => aa = #[(.ref a), (.ref r)] ∧ Z.Warmed39 U.vm ∧ U.heap = h0) (fun _ _ _ _ _ => True) (fun _ U o U' => ∃ v L, o = .returned v ∧ Q_rm4 Z a r r_w r_b nn h0 n0 v U'.heap L ∧ FrameEnd U o U' L ({ frames := 1, cells := 1, slots := 8, locals := 13 } : Room).cells ({ frames := 1, cells := 1, slots := 8, locals := 13 } : Room).slots) := by
  refine MetFree.of_bodySF (plainFor_of_name own_pn3) hisR ?_
  intro p e s m args below meth c s₁ Bd hml0 hP hK
  obtain ⟨rfl, hZ, hh⟩ := hP
  have hx := Bd.exec
  have hby := Bd.bytes
  have hml : c.maxLocals = 2 := hml0
  have hlk : meth.locks = false := BodyLoose.notSynchronized Bd
  have hown : s.vm.findClass "com/example/eschborn/eschborn/engine/BucketWindow" = some m.cls := findClass_of_methodNamed Bd.named
  have hnm := (name_of_methodNamed Bd.named Bd.method).1
  have X0 : Stand p l e ({ frames := 1, cells := 1, slots := 8, locals := 13 } : Room) s m #[(.ref a), (.ref r)] below meth c s₁ [] 0 0 := Stand.of_body Bd
  have e0 : s₁.heap = h0 := by rw [← hh, Bd.state]; rfl
  have N0 := Fr.nil n0
  show own_Go p e below s (Q_rm4 Z a r r_w r_b nn h0 n0) 1 8 (s₁.setTop (entryFrame m #[(.ref a), (.ref r)] 2))
  refine own_go (B := s₁.setTop (mkF m 0 #[.val (.ref a), .val (.ref r)] [])) (fun tgt cont => (XT.entry rfl).trans cont) ?_
  have ne_a_r := ne_exa E_a E_r (by decide)
  refine own_go (B := s₁.setTop (mkF m 1 #[.val (.ref a), .val (.ref r)] [(.ref a)])) (fun tgt cont => ?_) ?_
  · refine XS.aloadN X0.here hx rfl (hb hby d4_0) rfl rfl ?_
    exact cont
  obtain ⟨T1, X1, e1, st1⟩ := initO X0 hx hZ hown (hw _ (List.mem_of_getElem? (i := 37) rfl)) (hw _ (List.mem_of_getElem? (i := 17) rfl)) (hw _ (List.mem_of_getElem? (i := 18) rfl)) e0 (g := (mkF m 1 #[.val (.ref a), .val (.ref r)] [(.ref a)])) rfl (by rw [hml]; rfl) rfl (hb hby d4_1) (by decide) (W := 0) (by show 2 * 0 + _ ≤ _; exact Nat.le_of_eq rfl) (by decide)
  refine own_go (fun tgt cont => st1 tgt cont) ?_
  show own_Go p e below s (Q_rm4 Z a r r_w r_b nn h0 n0) 1 8 (T1.setTop (mkF m 4 #[.val (.ref a), .val (.ref r)] []))
  refine own_go (B := T1.setTop (mkF m 6 #[.val (.ref a), .val (.ref r)] [(.ref r), (.ref a)])) (fun tgt cont => ?_) ?_
  · refine XS.aloadN X1.here hx rfl (hb hby d4_4) rfl rfl ?_
    refine XS.aloadN X1.here hx rfl (hb hby d4_5) rfl rfl ?_
    exact cont
  -- pc 6: LoadRule.bucket
  obtain ⟨cq2, kq2, qa2, qb2, qc2⟩ := isOf hZ e1 E_r
  obtain ⟨_, _, ⟨T2, L2, k2, n2⟩, -, X2, ⟨Lc2, hQ2, l2, y2, z2⟩, st2⟩ := X1.virtualBack hx (y := (⟨"com/example/eschborn/eschborn/engine/LoadRule", "bucket", "()J"⟩ : MethodName)) (z := (⟨"com/example/eschborn/eschborn/engine/LoadRule", "bucket", "()J"⟩ : MethodName)) hown (mvT hZ (hw _ (List.mem_of_getElem? (i := 38) rfl))) (mvT hZ (hw _ (List.mem_of_getElem? (i := 39) rfl))) (notFace_of_selects (args := #[]) (mvT hZ (hw _ (List.mem_of_getElem? (i := 41) rfl)))) (mvT hZ (hw _ (List.mem_of_getElem? (i := 41) rfl))) (mvT hZ (hw _ (List.mem_of_getElem? (i := 40) rfl))) (by decide) (backOf (W := 1) (rm5 l Z a0 hw [] r r_b h0 n0 Z0 E_r F_r_bucket) hZ (hw _ (List.mem_of_getElem? (i := 42) rfl)) (hw _ (List.mem_of_getElem? (i := 7) rfl)) (by decide) (by decide)) qa2 qc2 (g := (mkF m 6 #[.val (.ref a), .val (.ref r)] [(.ref r), (.ref a)])) rfl (by rw [hml]; rfl) (Steps.refl _) (argsL := []) (rest := [(.ref a)]) (lenOf own_pd3 rfl) rfl (by show 2 * 0 + _ ≤ _; exact Nat.le_of_eq rfl) (hb hby d4_6) (fun _ _ => ⟨rfl, e1, (by decide : 0 + 0 ≤ _), (by decide : 0 + 0 ≤ _)⟩)
  dsimp only [Pt.U, Pt.locs, Pt.cells, Pt.slots] at X2 l2 y2 z2 st2 hQ2
  subst l2 y2 z2
  obtain ⟨rfl, N2q, e2⟩ := hQ2
  have N2 := Fr.app N0 N2q
  refine own_go (fun tgt cont => st2.trans cont) ?_
  show own_Go p e below s (Q_rm4 Z a r r_w r_b nn h0 n0) 1 8 (T2.setTop (mkF m 9 #[.val (.ref a), .val (.ref r)] [(.long r_b), (.ref a)]))
  obtain ⟨T3, h3, X3, e3, W3, st3⟩ := putF X2 hx hZ hown (host := "") (Or.inl (hw _ (List.mem_of_getElem? (i := 43) rfl))) Via.refl e2 F_a_bucket E_a (Or.inr ⟨(hw _ (List.mem_of_getElem? (i := 44) rfl)), rfl, hnm⟩) (hw _ (List.mem_of_getElem? (i := 3) rfl)) (ty := .long) (by decide) rfl rfl (g := (mkF m 9 #[.val (.ref a), .val (.ref r)] [(.long r_b), (.ref a)])) rfl rfl (hb hby d4_9)
  have fw3 := F_a_bucket.same W3
  have N3 := Fr.snoc X3 N2 g_a
  have kk3 : Keep h0 h3 [a] := (Keep.refl h0 [a]).wr W3 (Or.inl (List.mem_of_getElem? (i := 0) rfl))
  have zp3 : n0 ≤ h3.size := Nat.le_trans Z0 kk3.1
  refine own_go (fun tgt cont => st3 tgt cont) ?_
  show own_Go p e below s (Q_rm4 Z a r r_w r_b nn h0 n0) 1 8 (T3.setTop (mkF m 12 #[.val (.ref a), .val (.ref r)] []))
  refine own_go (B := T3.setTop (mkF m 14 #[.val (.ref a), .val (.ref r)] [(.ref r), (.ref a)])) (fun tgt cont => ?_) ?_
  · refine XS.aloadN X3.here hx rfl (hb hby d4_12) rfl rfl ?_
    refine XS.aloadN X3.here hx rfl (hb hby d4_13) rfl rfl ?_
    exact cont
  -- pc 14: LoadRule.window
  have f5 := (E_r.wr W3)
  have f6 := (F_r_window.other W3 (Or.inl (Ne.symm ne_a_r)))
  obtain ⟨cq4, kq4, qa4, qb4, qc4⟩ := isOf hZ e3 f5
  obtain ⟨_, _, ⟨T4, L4, k4, n4⟩, -, X4, ⟨Lc4, hQ4, l4, y4, z4⟩, st4⟩ := X3.virtualBack hx (y := (⟨"com/example/eschborn/eschborn/engine/LoadRule", "window", "()J"⟩ : MethodName)) (z := (⟨"com/example/eschborn/eschborn/engine/LoadRule", "window", "()J"⟩ : MethodName)) hown (mvT hZ (hw _ (List.mem_of_getElem? (i := 45) rfl))) (mvT hZ (hw _ (List.mem_of_getElem? (i := 46) rfl))) (notFace_of_selects (args := #[]) (mvT hZ (hw _ (List.mem_of_getElem? (i := 48) rfl)))) (mvT hZ (hw _ (List.mem_of_getElem? (i := 48) rfl))) (mvT hZ (hw _ (List.mem_of_getElem? (i := 47) rfl))) (by decide) (backOf (W := 1) (rm6 l Z a0 hw [] r r_w h3 n0 zp3 f5 f6) hZ (hw _ (List.mem_of_getElem? (i := 49) rfl)) (hw _ (List.mem_of_getElem? (i := 7) rfl)) (by decide) (by decide)) qa4 qc4 (g := (mkF m 14 #[.val (.ref a), .val (.ref r)] [(.ref r), (.ref a)])) rfl (by rw [hml]; rfl) (Steps.refl _) (argsL := []) (rest := [(.ref a)]) (lenOf own_pd3 rfl) rfl (by show 2 * 0 + _ ≤ _; exact Nat.le_of_eq rfl) (hb hby d4_14) (fun _ _ => ⟨rfl, e3, (by decide : 0 + 0 + 0 ≤ _), (by decide : 0 + 0 + 0 ≤ _)⟩)
  dsimp only [Pt.U, Pt.locs, Pt.cells, Pt.slots] at X4 l4 y4 z4 st4 hQ4
  subst l4 y4 z4
  obtain ⟨rfl, N4q, e4⟩ := hQ4
  have N4 := Fr.app N3 N4q
  refine own_go (fun tgt cont => st4.trans cont) ?_
  show own_Go p e below s (Q_rm4 Z a r r_w r_b nn h0 n0) 1 8 (T4.setTop (mkF m 17 #[.val (.ref a), .val (.ref r)] [(.long r_w), (.ref a)]))
  have f8 := (F_a_window.other W3 (Or.inr (slot_ne (t := .long) (t' := .long) (Or.inr (hw _ (List.mem_of_getElem? (i := 51) rfl))) (Or.inr (hw _ (List.mem_of_getElem? (i := 44) rfl))) (by decide) (by decide) (by decide))))
  have f9 := (E_a.wr W3)
  obtain ⟨T7, h7, X7, e7, W7, st7⟩ := putF X4 hx hZ hown (host := "") (Or.inl (hw _ (List.mem_of_getElem? (i := 50) rfl))) Via.refl e4 f8 f9 (Or.inr ⟨(hw _ (List.mem_of_getElem? (i := 51) rfl)), rfl, hnm⟩) (hw _ (List.mem_of_getElem? (i := 3) rfl)) (ty := .long) (by decide) rfl rfl (g := (mkF m 17 #[.val (.ref a), .val (.ref r)] [(.long r_w), (.ref a)])) rfl rfl (hb hby d4_17)
  have fw7 := f8.same W7
  have N7 := Fr.snoc X7 N4 g_a
  have kk7 : Keep h0 h7 [a] := kk3.wr W7 (Or.inl (List.mem_of_getElem? (i := 0) rfl))
  have zp7 : n0 ≤ h7.size := Nat.le_trans Z0 kk7.1
  refine own_go (fun tgt cont => st7 tgt cont) ?_
  show own_Go p e below s (Q_rm4 Z a r r_w r_b nn h0 n0) 1 8 (T7.setTop (mkF m 20 #[.val (.ref a), .val (.ref r)] []))
  refine own_go (B := T7.setTop (mkF m 22 #[.val (.ref a), .val (.ref r)] [(.ref r), (.ref a)])) (fun tgt cont => ?_) ?_
  · refine XS.aloadN X7.here hx rfl (hb hby d4_20) rfl rfl ?_
    refine XS.aloadN X7.here hx rfl (hb hby d4_21) rfl rfl ?_
    exact cont
  -- pc 22: LoadRule.buckets
  have f11 := (f5.wr W7)
  have f12 := (f6.other W7 (Or.inl (Ne.symm ne_a_r)))
  have f13 := ((F_r_bucket.other W3 (Or.inl (Ne.symm ne_a_r))).other W7 (Or.inl (Ne.symm ne_a_r)))
  obtain ⟨cq10, kq10, qa10, qb10, qc10⟩ := isOf hZ e7 f11
  obtain ⟨_, _, ⟨T10, L10, k10, n10⟩, -, X10, ⟨Lc10, hQ10, l10, y10, z10⟩, st10⟩ := X7.virtualBack hx (y := (⟨"com/example/eschborn/eschborn/engine/LoadRule", "buckets", "()I"⟩ : MethodName)) (z := (⟨"com/example/eschborn/eschborn/engine/LoadRule", "buckets", "()I"⟩ : MethodName)) hown (mvT hZ (hw _ (List.mem_of_getElem? (i := 52) rfl))) (mvT hZ (hw _ (List.mem_of_getElem? (i := 53) rfl))) (notFace_of_selects (args := #[]) (mvT hZ (hw _ (List.mem_of_getElem? (i := 55) rfl)))) (mvT hZ (hw _ (List.mem_of_getElem? (i := 55) rfl))) (mvT hZ (hw _ (List.mem_of_getElem? (i := 54) rfl))) (by decide) (backOf (W := 1) (rm7 l Z a0 hw [] r r_w r_b h7 n0 zp7 f11 f12 f13 hnz) hZ (hw _ (List.mem_of_getElem? (i := 56) rfl)) (hw _ (List.mem_of_getElem? (i := 7) rfl)) (by decide) (by decide)) qa10 qc10 (g := (mkF m 22 #[.val (.ref a), .val (.ref r)] [(.ref r), (.ref a)])) rfl (by rw [hml]; rfl) (Steps.refl _) (argsL := []) (rest := [(.ref a)]) (lenOf own_pd4 rfl) rfl (by show 2 * 0 + _ ≤ _; exact Nat.le_of_eq rfl) (hb hby d4_22) (fun _ _ => ⟨rfl, e7, (by decide : 0 + 0 + 0 + 0 ≤ _), (by decide : 0 + 0 + 0 + 0 ≤ _)⟩)
  dsimp only [Pt.U, Pt.locs, Pt.cells, Pt.slots] at X10 l10 y10 z10 st10 hQ10
  subst l10 y10 z10
  obtain ⟨rfl, N10q, e10⟩ := hQ10
  have N10 := Fr.app N7 N10q
  refine own_go (fun tgt cont => st10.trans cont) ?_
  show own_Go p e below s (Q_rm4 Z a r r_w r_b nn h0 n0) 1 8 (T10.setTop (mkF m 25 #[.val (.ref a), .val (.ref r)] [(.int (own_lrn_r r_w r_b)), (.ref a)]))
  rw [hn]
  have f15 := (f9.wr W7)
  obtain ⟨T14, h14, X14, e14, E14, A14, AE14, st14⟩ := own_newLA X10 hx hZ (hw _ (List.mem_of_getElem? (i := 57) rfl)) e10 (g := (mkF m 25 #[.val (.ref a), .val (.ref r)] [(.int (Int32.ofNat nn)), (.ref a)])) rfl (hb hby d4_25) rfl (own_nn h8) (cap := 8) (own_cap h8) (by decide) (by decide) (by decide)
  obtain ⟨b14, g14⟩ : ∃ z, z = h7.size := ⟨_, rfl⟩
  rw [← g14] at A14 AE14 st14
  have g_b14 : n0 ≤ b14 := Nat.le_trans zp7 (Nat.le_of_eq g14.symm)
  have sz_b14 : h0.size ≤ b14 := Nat.le_trans kk7.1 (Nat.le_of_eq g14.symm)
  have ne_a_b14 : a ≠ b14 := Nat.ne_of_lt (by rw [g14]; exact f15.lt)
  have ne_r_b14 : r ≠ b14 := Nat.ne_of_lt (by rw [g14]; exact f11.lt)
  have kk14 : Keep h0 h14 [a] := kk7.ext E14
  have zp14 : n0 ≤ h14.size := Nat.le_trans Z0 kk14.1
  have A14v : own_LA Z h14 b14 (List.replicate nn 0) := A14.cong (own_rep h8)
  refine own_go (fun tgt cont => st14 tgt cont) ?_
  show own_Go p e below s (Q_rm4 Z a r r_w r_b nn h0 n0) 1 8 (T14.setTop (mkF m 27 #[.val (.ref a), .val (.ref r)] [(.ref b14), (.ref a)]))
  have f17 := (((F_a_totals.other W3 (Or.inr (slot_ne (t := (.array .long)) (t' := .long) (Or.inr (hw _ (List.mem_of_getElem? (i := 59) rfl))) (Or.inr (hw _ (List.mem_of_getElem? (i := 44) rfl))) (by decide) (by decide) (by decide)))).other W7 (Or.inr (slot_ne (t := (.array .long)) (t' := .long) (Or.inr (hw _ (List.mem_of_getElem? (i := 59) rfl))) (Or.inr (hw _ (List.mem_of_getElem? (i := 51) rfl))) (by decide) (by decide) (by decide)))).ext E14)
  have f18 := (f15.ext E14)
  obtain ⟨T16, h16, X16, e16, W16, st16⟩ := putF X14 hx hZ hown (host := "") (Or.inl (hw _ (List.mem_of_getElem? (i := 58) rfl))) Via.refl e14 f17 f18 (Or.inr ⟨(hw _ (List.mem_of_getElem? (i := 59) rfl)), rfl, hnm⟩) (hw _ (List.mem_of_getElem? (i := 3) rfl)) (ty := (.array .long)) (by decide) rfl rfl (g := (mkF m 27 #[.val (.ref a), .val (.ref r)] [(.ref b14), (.ref a)])) rfl rfl (hb hby d4_27)
  have fw16 := f17.same W16
  have N16 := Fr.snoc X16 N10 g_a
  have kk16 : Keep h0 h16 [a] := kk14.wr W16 (Or.inl (List.mem_of_getElem? (i := 0) rfl))
  have zp16 : n0 ≤ h16.size := Nat.le_trans Z0 kk16.1
  refine own_go (fun tgt cont => st16 tgt cont) ?_
  show own_Go p e below s (Q_rm4 Z a r r_w r_b nn h0 n0) 1 8 (T16.setTop (mkF m 30 #[.val (.ref a), .val (.ref r)] []))
  refine own_end X16 (v := none) (fun _ => rfl) hlk ?_ (by decide) (by decide) (fun fs hl => X16.returnOut hx Bd.returns (hb hby d4_30) hl)
  have f19 := (f18.wr W16)
  have f20 := (((fw3.other W7 (Or.inr (slot_ne (t := .long) (t' := .long) (Or.inr (hw _ (List.mem_of_getElem? (i := 44) rfl))) (Or.inr (hw _ (List.mem_of_getElem? (i := 51) rfl))) (by decide) (by decide) (by decide)))).ext E14).other W16 (Or.inr (slot_ne (t := .long) (t' := (.array .long)) (Or.inr (hw _ (List.mem_of_getElem? (i := 44) rfl))) (Or.inr (hw _ (List.mem_of_getElem? (i := 59) rfl))) (by decide) (by decide) (by decide))))
  have f21 := ((fw7.ext E14).other W16 (Or.inr (slot_ne (t := .long) (t' := (.array .long)) (Or.inr (hw _ (List.mem_of_getElem? (i := 51) rfl))) (Or.inr (hw _ (List.mem_of_getElem? (i := 59) rfl))) (by decide) (by decide) (by decide))))
  have f22 := ((((F_a_newest.other W3 (Or.inr (slot_ne (t := .long) (t' := .long) (Or.inl (hw _ (List.mem_of_getElem? (i := 66) rfl))) (Or.inr (hw _ (List.mem_of_getElem? (i := 44) rfl))) (by decide) (by decide) (by decide)))).other W7 (Or.inr (slot_ne (t := .long) (t' := .long) (Or.inl (hw _ (List.mem_of_getElem? (i := 66) rfl))) (Or.inr (hw _ (List.mem_of_getElem? (i := 51) rfl))) (by decide) (by decide) (by decide)))).ext E14).other W16 (Or.inr (slot_ne (t := .long) (t' := (.array .long)) (Or.inl (hw _ (List.mem_of_getElem? (i := 66) rfl))) (Or.inr (hw _ (List.mem_of_getElem? (i := 59) rfl))) (by decide) (by decide) (by decide))))
  have f23 := ((((F_a_newestNumber.other W3 (Or.inr (slot_ne (t := .long) (t' := .long) (Or.inl (hw _ (List.mem_of_getElem? (i := 113) rfl))) (Or.inr (hw _ (List.mem_of_getElem? (i := 44) rfl))) (by decide) (by decide) (by decide)))).other W7 (Or.inr (slot_ne (t := .long) (t' := .long) (Or.inl (hw _ (List.mem_of_getElem? (i := 113) rfl))) (Or.inr (hw _ (List.mem_of_getElem? (i := 51) rfl))) (by decide) (by decide) (by decide)))).ext E14).other W16 (Or.inr (slot_ne (t := .long) (t' := (.array .long)) (Or.inl (hw _ (List.mem_of_getElem? (i := 113) rfl))) (Or.inr (hw _ (List.mem_of_getElem? (i := 59) rfl))) (by decide) (by decide) (by decide))))
  have f24 := ((((F_a_newestSlot.other W3 (Or.inr (slot_ne (t := .int) (t' := .long) (Or.inl (hw _ (List.mem_of_getElem? (i := 81) rfl))) (Or.inr (hw _ (List.mem_of_getElem? (i := 44) rfl))) (by decide) (by decide) (by decide)))).other W7 (Or.inr (slot_ne (t := .int) (t' := .long) (Or.inl (hw _ (List.mem_of_getElem? (i := 81) rfl))) (Or.inr (hw _ (List.mem_of_getElem? (i := 51) rfl))) (by decide) (by decide) (by decide)))).ext E14).other W16 (Or.inr (slot_ne (t := .int) (t' := (.array .long)) (Or.inl (hw _ (List.mem_of_getElem? (i := 81) rfl))) (Or.inr (hw _ (List.mem_of_getElem? (i := 59) rfl))) (by decide) (by decide) (by decide))))
  have f25 := ((((F_a_load.other W3 (Or.inr (slot_ne (t := .long) (t' := .long) (Or.inl (hw _ (List.mem_of_getElem? (i := 83) rfl))) (Or.inr (hw _ (List.mem_of_getElem? (i := 44) rfl))) (by decide) (by decide) (by decide)))).other W7 (Or.inr (slot_ne (t := .long) (t' := .long) (Or.inl (hw _ (List.mem_of_getElem? (i := 83) rfl))) (Or.inr (hw _ (List.mem_of_getElem? (i := 51) rfl))) (by decide) (by decide) (by decide)))).ext E14).other W16 (Or.inr (slot_ne (t := .long) (t' := (.array .long)) (Or.inl (hw _ (List.mem_of_getElem? (i := 83) rfl))) (Or.inr (hw _ (List.mem_of_getElem? (i := 59) rfl))) (by decide) (by decide) (by decide))))
  have f26 := (A14v.other W16 (Ne.symm ne_a_b14))
  have f27 := (AE14.wr W16)
  rw [e16]
  exact ⟨_, rfl, N16, kk16, f19, f20, f21, fw16, f22, f23, f24, f25, sz_b14, (by unfold own_bwi_totals; exact f26), f27⟩
def own_fl (p1 : Int64) (p2 : Int64) : Int64 := (p1 - (own_fm p1 p2))
def Q_rm16 (Z : State) (p1 : Int64) (p2 : Int64) (h0 : Heap) (n0 : Nat) (v : Option Value) (h : Heap) (L : List Loc) : Prop := v = some (.long (own_fl p1 p2)) ∧ Fr n0 L ∧ h = h0
theorem own_pn4 : plainName "com/example/eschborn/eschborn/engine/EpochNanos" = true := by first | (simp [plainName, overriddenIn]; done) | decide +kernel
theorem d16_0 : decode prog_8_method_4_code 0 = .ok (.lload_n 2, 1) := by decide +kernel
theorem d16_1 : decode prog_8_method_4_code 1 = .ok (.lconst 0, 1) := by decide +kernel
theorem d16_2 : decode prog_8_method_4_code 2 = .ok (.lcmp, 1) := by decide +kernel
theorem d16_3 : decode prog_8_method_4_code 3 = .ok (.ifCond .gt 17, 3) := by decide +kernel
theorem d16_20 : decode prog_8_method_4_code 20 = .ok (.lload_n 0, 1) := by decide +kernel
theorem d16_21 : decode prog_8_method_4_code 21 = .ok (.lload_n 2, 1) := by decide +kernel
theorem d16_22 : decode prog_8_method_4_code 22 = .ok (.invokestatic 57, 3) := by decide +kernel
theorem d16_25 : decode prog_8_method_4_code 25 = .ok (.lstore 4, 2) := by decide +kernel
theorem d16_27 : decode prog_8_method_4_code 27 = .ok (.lload_n 0, 1) := by decide +kernel
theorem d16_28 : decode prog_8_method_4_code 28 = .ok (.ldc2_w 65, 3) := by decide +kernel
theorem d16_31 : decode prog_8_method_4_code 31 = .ok (.lload 4, 2) := by decide +kernel
theorem d16_33 : decode prog_8_method_4_code 33 = .ok (.ladd, 1) := by decide +kernel
theorem d16_34 : decode prog_8_method_4_code 34 = .ok (.lcmp, 1) := by decide +kernel
theorem d16_35 : decode prog_8_method_4_code 35 = .ok (.ifCond .ge 30, 3) := by decide +kernel
theorem d16_65 : decode prog_8_method_4_code 65 = .ok (.lload_n 0, 1) := by decide +kernel
theorem d16_66 : decode prog_8_method_4_code 66 = .ok (.lload 4, 2) := by decide +kernel
theorem d16_68 : decode prog_8_method_4_code 68 = .ok (.lsub, 1) := by decide +kernel
theorem d16_69 : decode prog_8_method_4_code 69 = .ok (.lreturn, 1) := by decide +kernel
set_option maxRecDepth 65536 in
set_option maxHeartbeats 40000000 in
theorem rm16 (l : Launch) (Z : State) (a0 : Array Value) (hw : ∀ d ∈ tables_1, d.before a0 Z = true) (ws : List Jvm.Cond) (p1 : Int64) (p2 : Int64) (h0 : Heap) (n0 : Nat) (Z0 : n0 ≤ h0.size) (q1 : (0 : Int64) < p2) (hnz : p2 ≠ 0) (q2 : ¬ p1 < ((-9223372036854775808 : Int64) + (own_fm p1 p2))) :
    MetFree l (⟨"com/example/eschborn/eschborn/engine/EpochNanos", "floor", "(JJ)J"⟩ : MethodName) (head1 (Jvm.Cond.code (⟨"com/example/eschborn/eschborn/engine/EpochNanos", "floor", "(JJ)J"⟩ : MethodName) prog_8_method_4_code 6 (some .long) :: ws) ({ frames := 1, cells := 0, slots := 0, locals := 17 } : Room)) (fun aa U => aa = #[(.long p1), (.long p2)] ∧ Z.Warmed39 U.vm ∧ U.heap = h0) (fun _ _ _ _ _ => True) (fun _ U o U' => ∃ v L, o = .returned v ∧ Q_rm16 Z p1 p2 h0 n0 v U'.heap L ∧ FrameEnd U o U' L ({ frames := 1, cells := 0, slots := 0, locals := 17 } : Room).cells ({ frames := 1, cells := 0, slots := 0, locals := 17 } : Room).slots) := by
  refine MetFree.of_bodySF (plainFor_of_name own_pn4) hisR ?_
  intro p e s m args below meth c s₁ Bd hml0 hP hK
  obtain ⟨rfl, hZ, hh⟩ := hP
  have hx := Bd.exec
  have hby := Bd.bytes
  have hml : c.maxLocals = 6 := hml0
  have hlk : meth.locks = false := BodyLoose.notSynchronized Bd
  have hown : s.vm.findClass "com/example/eschborn/eschborn/engine/EpochNanos" = some m.cls := findClass_of_methodNamed Bd.named
  have hnm := (name_of_methodNamed Bd.named Bd.method).1
  have X0 : Stand p l e ({ frames := 1, cells := 0, slots := 0, locals := 17 } : Room) s m #[(.long p1), (.long p2)] below meth c s₁ [] 0 0 := Stand.of_body Bd
  have e0 : s₁.heap = h0 := by rw [← hh, Bd.state]; rfl
  have N0 := Fr.nil n0
  show own_Go p e below s (Q_rm16 Z p1 p2 h0 n0) 0 0 (s₁.setTop (entryFrame m #[(.long p1), (.long p2)] 6))
  refine own_go (B := s₁.setTop (mkF m 0 #[.val (.long p1), .second, .val (.long p2), .second, .unset, .unset] [])) (fun tgt cont => (XT.entry rfl).trans cont) ?_
  refine own_go (B := s₁.setTop (mkF m 22 #[.val (.long p1), .second, .val (.long p2), .second, .unset, .unset] [(.long p2), (.long p1)])) (fun tgt cont => ?_) ?_
  · refine XS.lloadN X0.here hx rfl (hb hby d16_0) rfl ?_
    refine XT.lconstV X0.here hx rfl (0 : Int64) (hb hby d16_1) rfl ?_
    refine XT.lcmp X0.here hx rfl (hb hby d16_2) rfl ?_
    refine XS.ifYes X0.here hx rfl (pc0 := 3) (pc' := 20) rfl (hb hby d16_3) rfl (XT.ll_gt_t q1) (by decide) (by decide) ?_
    refine XS.lloadN X0.here hx rfl (hb hby d16_20) rfl ?_
    refine XS.lloadN X0.here hx rfl (hb hby d16_21) rfl ?_
    exact cont
  -- pc 22: Math.floorMod
  obtain ⟨_, _, ⟨T1, L1, k1, n1⟩, -, X1, ⟨Lc1, hQ1, l1, y1, z1⟩, st1⟩ := Jvm.LawKit.callS X0 hx (y := (⟨"java/lang/Math", "floorMod", "(JJ)J"⟩ : MethodName)) hown (mvT hZ (hw _ (List.mem_of_getElem? (i := 104) rfl))) (mvT hZ (hw _ (List.mem_of_getElem? (i := 105) rfl))) (mvT hZ (hw _ (List.mem_of_getElem? (i := 106) rfl))) (mvT hZ (hw _ (List.mem_of_getElem? (i := 107) rfl))) (by decide) (backOf (W := 0) (rm17 l Z a0 hw [] p1 p2 h0 n0 Z0 hnz) hZ (hw _ (List.mem_of_getElem? (i := 107) rfl)) (hw _ (List.mem_of_getElem? (i := 106) rfl)) (by decide) (by decide)) (g := (mkF m 22 #[.val (.long p1), .second, .val (.long p2), .second, .unset, .unset] [(.long p2), (.long p1)])) rfl (by rw [hml]; rfl) (argsL := [(.long p1), (.long p2)]) (rest := []) (lenOf own_pd0 rfl) rfl (by show 2 * 0 + _ ≤ _; exact Nat.le_of_eq rfl) (hb hby d16_22) (fun _ _ => ⟨rfl, e0, (by decide : 0 + 0 ≤ _), (by decide : 0 + 0 ≤ _)⟩)
  dsimp only [Pt.U, Pt.locs, Pt.cells, Pt.slots] at X1 l1 y1 z1 st1 hQ1
  subst l1 y1 z1
  obtain ⟨rfl, N1q, e1⟩ := hQ1
  have N1 := Fr.app N0 N1q
  refine own_go (fun tgt cont => st1 tgt cont) ?_
  show own_Go p e below s (Q_rm16 Z p1 p2 h0 n0) 0 0 (T1.setTop (mkF m 25 #[.val (.long p1), .second, .val (.long p2), .second, .unset, .unset] [(.long (own_fm p1 p2))]))
  refine own_go (B := T1.setTop (mkF m 69 #[.val (.long p1), .second, .val (.long p2), .second, .val (.long (own_fm p1 p2)), .second] [(.long (p1 - (own_fm p1 p2)))])) (fun tgt cont => ?_) ?_
  · refine XS.lstore X1.here hx rfl (hb hby d16_25) rfl (l' := #[.val (.long p1), .second, .val (.long p2), .second, .val (.long (own_fm p1 p2)), .second]) rfl ?_
    refine XS.lloadN X1.here hx rfl (hb hby d16_27) rfl ?_
    refine Stand.ldc2J X1 hx hown (mvT hZ (hw _ (List.mem_of_getElem? (i := 108) rfl))) rfl (hb hby d16_28) ?_
    refine XS.lload X1.here hx rfl (hb hby d16_31) rfl ?_
    refine XS.ladd X1.here hx rfl (hb hby d16_33) rfl ?_
    refine XT.lcmp X1.here hx rfl (hb hby d16_34) rfl ?_
    refine XS.ifYes X1.here hx rfl (pc0 := 35) (pc' := 65) rfl (hb hby d16_35) rfl (XT.ll_ge_t q2) (by decide) (by decide) ?_
    refine XS.lloadN X1.here hx rfl (hb hby d16_65) rfl ?_
    refine XS.lload X1.here hx rfl (hb hby d16_66) rfl ?_
    refine XS.lsub X1.here hx rfl (hb hby d16_68) rfl ?_
    exact cont
  refine own_end X1 (v := some (.long (p1 - (own_fm p1 p2)))) (fun h => by rw [Bd.returns] at h; cases h) hlk ?_ (by decide) (by decide) (fun fs hl => retOut X1 hx Bd.returns rfl (Or.inr (Or.inl ⟨rfl, rfl, _, rfl⟩)) (hb hby d16_69) hl)
  exact ⟨(by unfold own_fl; exact rfl), N1, e1⟩
def own_rst_newest (p1 : Int64) (u_b : Int64) : Int64 := (own_fl p1 u_b)
def own_rst_newestNumber (p1 : Int64) (u_b : Int64) : Int64 := (own_fd (own_fl p1 u_b) u_b)
def own_rst_newestSlot (p1 : Int64) (u_b : Int64) (ts : List Int64) : Int32 := (own_fmi (own_fd (own_fl p1 u_b) u_b) (Int32.ofNat ts.length))
def Q_rm15 (Z : State) (a : Addr) (p1 : Int64) (u_b : Int64) (u_w : Int64) (u_t : Addr) (u_n : Int64) (u_m : Int64) (u_s : Int32) (u_l : Int64) (ts : List Int64) (h0 : Heap) (n0 : Nat) (v : Option Value) (h : Heap) (L : List Loc) : Prop := v = none ∧ Fr n0 L ∧ Keep h0 h [a] ∧ Exa Z h a "com/example/eschborn/eschborn/engine/BucketWindow" ∧ Fld Z h a "com/example/eschborn/eschborn/engine/BucketWindow" "bucket" "J" (.long u_b) ∧ Fld Z h a "com/example/eschborn/eschborn/engine/BucketWindow" "window" "J" (.long u_w) ∧ Fld Z h a "com/example/eschborn/eschborn/engine/BucketWindow" "totals" "[J" (.ref u_t) ∧ Fld Z h a "com/example/eschborn/eschborn/engine/BucketWindow" "newest" "J" (.long (own_rst_newest p1 u_b)) ∧ Fld Z h a "com/example/eschborn/eschborn/engine/BucketWindow" "newestNumber" "J" (.long (own_rst_newestNumber p1 u_b)) ∧ Fld Z h a "com/example/eschborn/eschborn/engine/BucketWindow" "newestSlot" "I" (.int (own_rst_newestSlot p1 u_b ts)) ∧ Fld Z h a "com/example/eschborn/eschborn/engine/BucketWindow" "load" "J" (.long u_l)
theorem own_pd5 : parseMethodDescriptor "(JI)I" = some ⟨[.long, .int], some .int⟩ := by decide +kernel
theorem d15_0 : decode prog_1_method_11_code 0 = .ok (.aload_n 0, 1) := by decide +kernel
theorem d15_1 : decode prog_1_method_11_code 1 = .ok (.lload_n 1, 1) := by decide +kernel
theorem d15_2 : decode prog_1_method_11_code 2 = .ok (.aload_n 0, 1) := by decide +kernel
theorem d15_3 : decode prog_1_method_11_code 3 = .ok (.getfield 13, 3) := by decide +kernel
theorem d15_6 : decode prog_1_method_11_code 6 = .ok (.invokestatic 71, 3) := by decide +kernel
theorem d15_9 : decode prog_1_method_11_code 9 = .ok (.putfield 31, 3) := by decide +kernel
theorem d15_12 : decode prog_1_method_11_code 12 = .ok (.aload_n 0, 1) := by decide +kernel
theorem d15_13 : decode prog_1_method_11_code 13 = .ok (.aload_n 0, 1) := by decide +kernel
theorem d15_14 : decode prog_1_method_11_code 14 = .ok (.getfield 31, 3) := by decide +kernel
theorem d15_17 : decode prog_1_method_11_code 17 = .ok (.aload_n 0, 1) := by decide +kernel
theorem d15_18 : decode prog_1_method_11_code 18 = .ok (.getfield 13, 3) := by decide +kernel
theorem d15_21 : decode prog_1_method_11_code 21 = .ok (.invokestatic 77, 3) := by decide +kernel
theorem d15_24 : decode prog_1_method_11_code 24 = .ok (.putfield 68, 3) := by decide +kernel
theorem d15_27 : decode prog_1_method_11_code 27 = .ok (.aload_n 0, 1) := by decide +kernel
theorem d15_28 : decode prog_1_method_11_code 28 = .ok (.aload_n 0, 1) := by decide +kernel
theorem d15_29 : decode prog_1_method_11_code 29 = .ok (.getfield 68, 3) := by decide +kernel
theorem d15_32 : decode prog_1_method_11_code 32 = .ok (.aload_n 0, 1) := by decide +kernel
theorem d15_33 : decode prog_1_method_11_code 33 = .ok (.getfield 27, 3) := by decide +kernel
theorem d15_36 : decode prog_1_method_11_code 36 = .ok (.arraylength, 1) := by decide +kernel
theorem d15_37 : decode prog_1_method_11_code 37 = .ok (.invokestatic 82, 3) := by decide +kernel
theorem d15_40 : decode prog_1_method_11_code 40 = .ok (.putfield 60, 3) := by decide +kernel
theorem d15_43 : decode prog_1_method_11_code 43 = .ok (.return_, 1) := by decide +kernel
set_option maxRecDepth 65536 in
set_option maxHeartbeats 40000000 in
theorem rm15 (l : Launch) (Z : State) (a0 : Array Value) (hw : ∀ d ∈ tables_1, d.before a0 Z = true) (ws : List Jvm.Cond) (a : Addr) (p1 : Int64) (u_b : Int64) (u_w : Int64) (u_t : Addr) (u_n : Int64) (u_m : Int64) (u_s : Int32) (u_l : Int64) (ts : List Int64) (h0 : Heap) (n0 : Nat) (Z0 : n0 ≤ h0.size) (E_a : Exa Z h0 a "com/example/eschborn/eschborn/engine/BucketWindow") (F_a_bucket : Fld Z h0 a "com/example/eschborn/eschborn/engine/BucketWindow" "bucket" "J" (.long u_b)) (F_a_window : Fld Z h0 a "com/example/eschborn/eschborn/engine/BucketWindow" "window" "J" (.long u_w)) (F_a_totals : Fld Z h0 a "com/example/eschborn/eschborn/engine/BucketWindow" "totals" "[J" (.ref u_t)) (F_a_newest : Fld Z h0 a "com/example/eschborn/eschborn/engine/BucketWindow" "newest" "J" (.long u_n)) (F_a_newestNumber : Fld Z h0 a "com/example/eschborn/eschborn/engine/BucketWindow" "newestNumber" "J" (.long u_m)) (F_a_newestSlot : Fld Z h0 a "com/example/eschborn/eschborn/engine/BucketWindow" "newestSlot" "I" (.int u_s)) (F_a_load : Fld Z h0 a "com/example/eschborn/eschborn/engine/BucketWindow" "load" "J" (.long u_l)) (g_a : n0 ≤ a) (A_u_t : own_LA Z h0 u_t ts) (q1 : (0 : Int64) < u_b) (hnz : u_b ≠ 0) (q2 : ¬ p1 < ((-9223372036854775808 : Int64) + (own_fm p1 u_b))) (hlz : (Int32.ofNat ts.length).toInt64 ≠ 0) :
    MetFree l (⟨"com/example/eschborn/eschborn/engine/BucketWindow", "restart", "(J)V"⟩ : MethodName) (head1 (Jvm.Cond.code (⟨"com/example/eschborn/eschborn/engine/BucketWindow", "restart", "(J)V"⟩ : MethodName) prog_1_method_11_code 3 none :: ws) ({ frames := 2, cells := 0, slots := 0, locals := 35 } : Room)) (fun aa U => aa = #[(.ref a), (.long p1)] ∧ Z.Warmed39 U.vm ∧ U.heap = h0) (fun _ _ _ _ _ => True) (fun _ U o U' => ∃ v L, o = .returned v ∧ Q_rm15 Z a p1 u_b u_w u_t u_n u_m u_s u_l ts h0 n0 v U'.heap L ∧ FrameEnd U o U' L ({ frames := 2, cells := 0, slots := 0, locals := 35 } : Room).cells ({ frames := 2, cells := 0, slots := 0, locals := 35 } : Room).slots) := by
  refine MetFree.of_bodySF (plainFor_of_name own_pn3) hisR ?_
  intro p e s m args below meth c s₁ Bd hml0 hP hK
  obtain ⟨rfl, hZ, hh⟩ := hP
  have hx := Bd.exec
  have hby := Bd.bytes
  have hml : c.maxLocals = 3 := hml0
  have hlk : meth.locks = false := BodyLoose.notSynchronized Bd
  have hown : s.vm.findClass "com/example/eschborn/eschborn/engine/BucketWindow" = some m.cls := findClass_of_methodNamed Bd.named
  have hnm := (name_of_methodNamed Bd.named Bd.method).1
  have X0 : Stand p l e ({ frames := 2, cells := 0, slots := 0, locals := 35 } : Room) s m #[(.ref a), (.long p1)] below meth c s₁ [] 0 0 := Stand.of_body Bd
  have e0 : s₁.heap = h0 := by rw [← hh, Bd.state]; rfl
  have N0 := Fr.nil n0
  show own_Go p e below s (Q_rm15 Z a p1 u_b u_w u_t u_n u_m u_s u_l ts h0 n0) 0 0 (s₁.setTop (entryFrame m #[(.ref a), (.long p1)] 3))
  refine own_go (B := s₁.setTop (mkF m 0 #[.val (.ref a), .val (.long p1), .second] [])) (fun tgt cont => (XT.entry rfl).trans cont) ?_
  have ne_a_u_t := own_neA E_a (hw _ (List.mem_of_getElem? (i := 3) rfl)) A_u_t.arr
  refine own_go (B := s₁.setTop (mkF m 3 #[.val (.ref a), .val (.long p1), .second] [(.ref a), (.long p1), (.ref a)])) (fun tgt cont => ?_) ?_
  · refine XS.aloadN X0.here hx rfl (hb hby d15_0) rfl rfl ?_
    refine XS.lloadN X0.here hx rfl (hb hby d15_1) rfl ?_
    refine XS.aloadN X0.here hx rfl (hb hby d15_2) rfl rfl ?_
    exact cont
  obtain ⟨T1, X1, e1, st1⟩ := getF X0 hx hZ hown (host := "") (Or.inl (hw _ (List.mem_of_getElem? (i := 43) rfl))) Via.refl e0 F_a_bucket (g := (mkF m 3 #[.val (.ref a), .val (.long p1), .second] [(.ref a), (.long p1), (.ref a)])) rfl rfl (hb hby d15_3)
  refine own_go (fun tgt cont => st1 tgt cont) ?_
  show own_Go p e below s (Q_rm15 Z a p1 u_b u_w u_t u_n u_m u_s u_l ts h0 n0) 0 0 (T1.setTop (mkF m 6 #[.val (.ref a), .val (.long p1), .second] [(.long u_b), (.long p1), (.ref a)]))
  -- pc 6: EpochNanos.floor
  obtain ⟨_, _, ⟨T2, L2, k2, n2⟩, -, X2, ⟨Lc2, hQ2, l2, y2, z2⟩, st2⟩ := Jvm.LawKit.callS X1 hx (y := (⟨"com/example/eschborn/eschborn/engine/EpochNanos", "floor", "(JJ)J"⟩ : MethodName)) hown (mvT hZ (hw _ (List.mem_of_getElem? (i := 100) rfl))) (mvT hZ (hw _ (List.mem_of_getElem? (i := 101) rfl))) (mvT hZ (hw _ (List.mem_of_getElem? (i := 102) rfl))) (mvT hZ (hw _ (List.mem_of_getElem? (i := 103) rfl))) (by decide) (backOf (W := 1) (rm16 l Z a0 hw [] p1 u_b h0 n0 Z0 q1 hnz q2) hZ (hw _ (List.mem_of_getElem? (i := 103) rfl)) (hw _ (List.mem_of_getElem? (i := 102) rfl)) (by decide) (by decide)) (g := (mkF m 6 #[.val (.ref a), .val (.long p1), .second] [(.long u_b), (.long p1), (.ref a)])) rfl (by rw [hml]; rfl) (argsL := [(.long p1), (.long u_b)]) (rest := [(.ref a)]) (lenOf own_pd0 rfl) rfl (by show 2 * 0 + _ ≤ _; exact Nat.le_of_eq rfl) (hb hby d15_6) (fun _ _ => ⟨rfl, e1, (by decide : 0 + 0 ≤ _), (by decide : 0 + 0 ≤ _)⟩)
  dsimp only [Pt.U, Pt.locs, Pt.cells, Pt.slots] at X2 l2 y2 z2 st2 hQ2
  subst l2 y2 z2
  obtain ⟨rfl, N2q, e2⟩ := hQ2
  have N2 := Fr.app N0 N2q
  refine own_go (fun tgt cont => st2 tgt cont) ?_
  show own_Go p e below s (Q_rm15 Z a p1 u_b u_w u_t u_n u_m u_s u_l ts h0 n0) 0 0 (T2.setTop (mkF m 9 #[.val (.ref a), .val (.long p1), .second] [(.long (own_fl p1 u_b)), (.ref a)]))
  obtain ⟨T3, h3, X3, e3, W3, st3⟩ := putF X2 hx hZ hown (host := "") (Or.inl (hw _ (List.mem_of_getElem? (i := 65) rfl))) Via.refl e2 F_a_newest E_a (Or.inl (hw _ (List.mem_of_getElem? (i := 66) rfl))) (hw _ (List.mem_of_getElem? (i := 3) rfl)) (ty := .long) (by decide) rfl rfl (g := (mkF m 9 #[.val (.ref a), .val (.long p1), .second] [(.long (own_fl p1 u_b)), (.ref a)])) rfl rfl (hb hby d15_9)
  have fw3 := F_a_newest.same W3
  have N3 := Fr.snoc X3 N2 g_a
  have kk3 : Keep h0 h3 [a] := (Keep.refl h0 [a]).wr W3 (Or.inl (List.mem_of_getElem? (i := 0) rfl))
  have zp3 : n0 ≤ h3.size := Nat.le_trans Z0 kk3.1
  refine own_go (fun tgt cont => st3 tgt cont) ?_
  show own_Go p e below s (Q_rm15 Z a p1 u_b u_w u_t u_n u_m u_s u_l ts h0 n0) 0 0 (T3.setTop (mkF m 12 #[.val (.ref a), .val (.long p1), .second] []))
  refine own_go (B := T3.setTop (mkF m 14 #[.val (.ref a), .val (.long p1), .second] [(.ref a), (.ref a)])) (fun tgt cont => ?_) ?_
  · refine XS.aloadN X3.here hx rfl (hb hby d15_12) rfl rfl ?_
    refine XS.aloadN X3.here hx rfl (hb hby d15_13) rfl rfl ?_
    exact cont
  obtain ⟨T4, X4, e4, st4⟩ := getF X3 hx hZ hown (host := "") (Or.inl (hw _ (List.mem_of_getElem? (i := 65) rfl))) Via.refl e3 fw3 (g := (mkF m 14 #[.val (.ref a), .val (.long p1), .second] [(.ref a), (.ref a)])) rfl rfl (hb hby d15_14)
  refine own_go (fun tgt cont => st4 tgt cont) ?_
  show own_Go p e below s (Q_rm15 Z a p1 u_b u_w u_t u_n u_m u_s u_l ts h0 n0) 0 0 (T4.setTop (mkF m 17 #[.val (.ref a), .val (.long p1), .second] [(.long (own_fl p1 u_b)), (.ref a)]))
  refine own_go (B := T4.setTop (mkF m 18 #[.val (.ref a), .val (.long p1), .second] [(.ref a), (.long (own_fl p1 u_b)), (.ref a)])) (fun tgt cont => ?_) ?_
  · refine XS.aloadN X4.here hx rfl (hb hby d15_17) rfl rfl ?_
    exact cont
  have f6 := (F_a_bucket.other W3 (Or.inr (slot_ne (t := .long) (t' := .long) (Or.inr (hw _ (List.mem_of_getElem? (i := 44) rfl))) (Or.inl (hw _ (List.mem_of_getElem? (i := 66) rfl))) (by decide) (by decide) (by decide))))
  obtain ⟨T5, X5, e5, st5⟩ := getF X4 hx hZ hown (host := "") (Or.inl (hw _ (List.mem_of_getElem? (i := 43) rfl))) Via.refl e4 f6 (g := (mkF m 18 #[.val (.ref a), .val (.long p1), .second] [(.ref a), (.long (own_fl p1 u_b)), (.ref a)])) rfl rfl (hb hby d15_18)
  refine own_go (fun tgt cont => st5 tgt cont) ?_
  show own_Go p e below s (Q_rm15 Z a p1 u_b u_w u_t u_n u_m u_s u_l ts h0 n0) 0 0 (T5.setTop (mkF m 21 #[.val (.ref a), .val (.long p1), .second] [(.long u_b), (.long (own_fl p1 u_b)), (.ref a)]))
  -- pc 21: Math.floorDiv
  obtain ⟨_, _, ⟨T7, L7, k7, n7⟩, -, X7, ⟨Lc7, hQ7, l7, y7, z7⟩, st7⟩ := Jvm.LawKit.callS X5 hx (y := (⟨"java/lang/Math", "floorDiv", "(JJ)J"⟩ : MethodName)) hown (mvT hZ (hw _ (List.mem_of_getElem? (i := 109) rfl))) (mvT hZ (hw _ (List.mem_of_getElem? (i := 110) rfl))) (mvT hZ (hw _ (List.mem_of_getElem? (i := 106) rfl))) (mvT hZ (hw _ (List.mem_of_getElem? (i := 111) rfl))) (by decide) (backOf (W := 1) (rm18 l Z a0 hw [] (own_fl p1 u_b) u_b h3 n0 zp3 hnz) hZ (hw _ (List.mem_of_getElem? (i := 111) rfl)) (hw _ (List.mem_of_getElem? (i := 106) rfl)) (by decide) (by decide)) (g := (mkF m 21 #[.val (.ref a), .val (.long p1), .second] [(.long u_b), (.long (own_fl p1 u_b)), (.ref a)])) rfl (by rw [hml]; rfl) (argsL := [(.long (own_fl p1 u_b)), (.long u_b)]) (rest := [(.ref a)]) (lenOf own_pd0 rfl) rfl (by show 2 * 0 + _ ≤ _; exact Nat.le_of_eq rfl) (hb hby d15_21) (fun _ _ => ⟨rfl, e5, (by decide : 0 + 0 + 0 ≤ _), (by decide : 0 + 0 + 0 ≤ _)⟩)
  dsimp only [Pt.U, Pt.locs, Pt.cells, Pt.slots] at X7 l7 y7 z7 st7 hQ7
  subst l7 y7 z7
  obtain ⟨rfl, N7q, e7⟩ := hQ7
  have N7 := Fr.app N3 N7q
  refine own_go (fun tgt cont => st7 tgt cont) ?_
  show own_Go p e below s (Q_rm15 Z a p1 u_b u_w u_t u_n u_m u_s u_l ts h0 n0) 0 0 (T7.setTop (mkF m 24 #[.val (.ref a), .val (.long p1), .second] [(.long (own_fd (own_fl p1 u_b) u_b)), (.ref a)]))
  have f9 := (F_a_newestNumber.other W3 (Or.inr (slot_ne (t := .long) (t' := .long) (Or.inl (hw _ (List.mem_of_getElem? (i := 113) rfl))) (Or.inl (hw _ (List.mem_of_getElem? (i := 66) rfl))) (by decide) (by decide) (by decide))))
  have f10 := (E_a.wr W3)
  obtain ⟨T8, h8, X8, e8, W8, st8⟩ := putF X7 hx hZ hown (host := "") (Or.inl (hw _ (List.mem_of_getElem? (i := 112) rfl))) Via.refl e7 f9 f10 (Or.inl (hw _ (List.mem_of_getElem? (i := 113) rfl))) (hw _ (List.mem_of_getElem? (i := 3) rfl)) (ty := .long) (by decide) rfl rfl (g := (mkF m 24 #[.val (.ref a), .val (.long p1), .second] [(.long (own_fd (own_fl p1 u_b) u_b)), (.ref a)])) rfl rfl (hb hby d15_24)
  have fw8 := f9.same W8
  have N8 := Fr.snoc X8 N7 g_a
  have kk8 : Keep h0 h8 [a] := kk3.wr W8 (Or.inl (List.mem_of_getElem? (i := 0) rfl))
  have zp8 : n0 ≤ h8.size := Nat.le_trans Z0 kk8.1
  refine own_go (fun tgt cont => st8 tgt cont) ?_
  show own_Go p e below s (Q_rm15 Z a p1 u_b u_w u_t u_n u_m u_s u_l ts h0 n0) 0 0 (T8.setTop (mkF m 27 #[.val (.ref a), .val (.long p1), .second] []))
  refine own_go (B := T8.setTop (mkF m 29 #[.val (.ref a), .val (.long p1), .second] [(.ref a), (.ref a)])) (fun tgt cont => ?_) ?_
  · refine XS.aloadN X8.here hx rfl (hb hby d15_27) rfl rfl ?_
    refine XS.aloadN X8.here hx rfl (hb hby d15_28) rfl rfl ?_
    exact cont
  obtain ⟨T11, X11, e11, st11⟩ := getF X8 hx hZ hown (host := "") (Or.inl (hw _ (List.mem_of_getElem? (i := 112) rfl))) Via.refl e8 fw8 (g := (mkF m 29 #[.val (.ref a), .val (.long p1), .second] [(.ref a), (.ref a)])) rfl rfl (hb hby d15_29)
  refine own_go (fun tgt cont => st11 tgt cont) ?_
  show own_Go p e below s (Q_rm15 Z a p1 u_b u_w u_t u_n u_m u_s u_l ts h0 n0) 0 0 (T11.setTop (mkF m 32 #[.val (.ref a), .val (.long p1), .second] [(.long (own_fd (own_fl p1 u_b) u_b)), (.ref a)]))
  refine own_go (B := T11.setTop (mkF m 33 #[.val (.ref a), .val (.long p1), .second] [(.ref a), (.long (own_fd (own_fl p1 u_b) u_b)), (.ref a)])) (fun tgt cont => ?_) ?_
  · refine XS.aloadN X11.here hx rfl (hb hby d15_32) rfl rfl ?_
    exact cont
  have f13 := ((F_a_totals.other W3 (Or.inr (slot_ne (t := (.array .long)) (t' := .long) (Or.inr (hw _ (List.mem_of_getElem? (i := 59) rfl))) (Or.inl (hw _ (List.mem_of_getElem? (i := 66) rfl))) (by decide) (by decide) (by decide)))).other W8 (Or.inr (slot_ne (t := (.array .long)) (t' := .long) (Or.inr (hw _ (List.mem_of_getElem? (i := 59) rfl))) (Or.inl (hw _ (List.mem_of_getElem? (i := 113) rfl))) (by decide) (by decide) (by decide))))
  obtain ⟨T12, X12, e12, st12⟩ := getF X11 hx hZ hown (host := "") (Or.inl (hw _ (List.mem_of_getElem? (i := 58) rfl))) Via.refl e11 f13 (g := (mkF m 33 #[.val (.ref a), .val (.long p1), .second] [(.ref a), (.long (own_fd (own_fl p1 u_b) u_b)), (.ref a)])) rfl rfl (hb hby d15_33)
  refine own_go (fun tgt cont => st12 tgt cont) ?_
  show own_Go p e below s (Q_rm15 Z a p1 u_b u_w u_t u_n u_m u_s u_l ts h0 n0) 0 0 (T12.setTop (mkF m 36 #[.val (.ref a), .val (.long p1), .second] [(.ref u_t), (.long (own_fd (own_fl p1 u_b) u_b)), (.ref a)]))
  have f14 := ((A_u_t.other W3 (Ne.symm ne_a_u_t)).other W8 (Ne.symm ne_a_u_t))
  refine own_go (B := T12.setTop (mkF m 37 #[.val (.ref a), .val (.long p1), .second] [(.int (Int32.ofNat ts.length)), (.long (own_fd (own_fl p1 u_b) u_b)), (.ref a)])) (fun tgt cont => ?_) ?_
  · refine own_lenLA X12 hx hZ e12 f14 (g := (mkF m 36 #[.val (.ref a), .val (.long p1), .second] [(.ref u_t), (.long (own_fd (own_fl p1 u_b) u_b)), (.ref a)])) rfl rfl (hb hby d15_36) ?_
    exact cont
  -- pc 37: Math.floorMod
  obtain ⟨_, _, ⟨T15, L15, k15, n15⟩, -, X15, ⟨Lc15, hQ15, l15, y15, z15⟩, st15⟩ := Jvm.LawKit.callS X12 hx (y := (⟨"java/lang/Math", "floorMod", "(JI)I"⟩ : MethodName)) hown (mvT hZ (hw _ (List.mem_of_getElem? (i := 114) rfl))) (mvT hZ (hw _ (List.mem_of_getElem? (i := 115) rfl))) (mvT hZ (hw _ (List.mem_of_getElem? (i := 106) rfl))) (mvT hZ (hw _ (List.mem_of_getElem? (i := 116) rfl))) (by decide) (backOf (W := 1) (rm19 l Z a0 hw [] (own_fd (own_fl p1 u_b) u_b) (Int32.ofNat ts.length) h8 n0 zp8 hlz) hZ (hw _ (List.mem_of_getElem? (i := 116) rfl)) (hw _ (List.mem_of_getElem? (i := 106) rfl)) (by decide) (by decide)) (g := (mkF m 37 #[.val (.ref a), .val (.long p1), .second] [(.int (Int32.ofNat ts.length)), (.long (own_fd (own_fl p1 u_b) u_b)), (.ref a)])) rfl (by rw [hml]; rfl) (argsL := [(.long (own_fd (own_fl p1 u_b) u_b)), (.int (Int32.ofNat ts.length))]) (rest := [(.ref a)]) (lenOf own_pd5 rfl) rfl (by show 2 * 0 + _ ≤ _; exact Nat.le_of_eq rfl) (hb hby d15_37) (fun _ _ => ⟨rfl, e12, (by decide : 0 + 0 + 0 + 0 ≤ _), (by decide : 0 + 0 + 0 + 0 ≤ _)⟩)
  dsimp only [Pt.U, Pt.locs, Pt.cells, Pt.slots] at X15 l15 y15 z15 st15 hQ15
  subst l15 y15 z15
  obtain ⟨rfl, N15q, e15⟩ := hQ15
  have N15 := Fr.app N8 N15q
  refine own_go (fun tgt cont => st15 tgt cont) ?_
  show own_Go p e below s (Q_rm15 Z a p1 u_b u_w u_t u_n u_m u_s u_l ts h0 n0) 0 0 (T15.setTop (mkF m 40 #[.val (.ref a), .val (.long p1), .second] [(.int (own_fmi (own_fd (own_fl p1 u_b) u_b) (Int32.ofNat ts.length))), (.ref a)]))
  have f17 := ((F_a_newestSlot.other W3 (Or.inr (slot_ne (t := .int) (t' := .long) (Or.inl (hw _ (List.mem_of_getElem? (i := 81) rfl))) (Or.inl (hw _ (List.mem_of_getElem? (i := 66) rfl))) (by decide) (by decide) (by decide)))).other W8 (Or.inr (slot_ne (t := .int) (t' := .long) (Or.inl (hw _ (List.mem_of_getElem? (i := 81) rfl))) (Or.inl (hw _ (List.mem_of_getElem? (i := 113) rfl))) (by decide) (by decide) (by decide))))
  have f18 := (f10.wr W8)
  obtain ⟨T16, h16, X16, e16, W16, st16⟩ := putF X15 hx hZ hown (host := "") (Or.inl (hw _ (List.mem_of_getElem? (i := 80) rfl))) Via.refl e15 f17 f18 (Or.inl (hw _ (List.mem_of_getElem? (i := 81) rfl))) (hw _ (List.mem_of_getElem? (i := 3) rfl)) (ty := .int) (by decide) rfl rfl (g := (mkF m 40 #[.val (.ref a), .val (.long p1), .second] [(.int (own_fmi (own_fd (own_fl p1 u_b) u_b) (Int32.ofNat ts.length))), (.ref a)])) rfl rfl (hb hby d15_40)
  have fw16 := f17.same W16
  have N16 := Fr.snoc X16 N15 g_a
  have kk16 : Keep h0 h16 [a] := kk8.wr W16 (Or.inl (List.mem_of_getElem? (i := 0) rfl))
  have zp16 : n0 ≤ h16.size := Nat.le_trans Z0 kk16.1
  refine own_go (fun tgt cont => st16 tgt cont) ?_
  show own_Go p e below s (Q_rm15 Z a p1 u_b u_w u_t u_n u_m u_s u_l ts h0 n0) 0 0 (T16.setTop (mkF m 43 #[.val (.ref a), .val (.long p1), .second] []))
  refine own_end X16 (v := none) (fun _ => rfl) hlk ?_ (by decide) (by decide) (fun fs hl => X16.returnOut hx Bd.returns (hb hby d15_43) hl)
  have f19 := (f18.wr W16)
  have f20 := ((f6.other W8 (Or.inr (slot_ne (t := .long) (t' := .long) (Or.inr (hw _ (List.mem_of_getElem? (i := 44) rfl))) (Or.inl (hw _ (List.mem_of_getElem? (i := 113) rfl))) (by decide) (by decide) (by decide)))).other W16 (Or.inr (slot_ne (t := .long) (t' := .int) (Or.inr (hw _ (List.mem_of_getElem? (i := 44) rfl))) (Or.inl (hw _ (List.mem_of_getElem? (i := 81) rfl))) (by decide) (by decide) (by decide))))
  have f21 := (((F_a_window.other W3 (Or.inr (slot_ne (t := .long) (t' := .long) (Or.inr (hw _ (List.mem_of_getElem? (i := 51) rfl))) (Or.inl (hw _ (List.mem_of_getElem? (i := 66) rfl))) (by decide) (by decide) (by decide)))).other W8 (Or.inr (slot_ne (t := .long) (t' := .long) (Or.inr (hw _ (List.mem_of_getElem? (i := 51) rfl))) (Or.inl (hw _ (List.mem_of_getElem? (i := 113) rfl))) (by decide) (by decide) (by decide)))).other W16 (Or.inr (slot_ne (t := .long) (t' := .int) (Or.inr (hw _ (List.mem_of_getElem? (i := 51) rfl))) (Or.inl (hw _ (List.mem_of_getElem? (i := 81) rfl))) (by decide) (by decide) (by decide))))
  have f22 := (f13.other W16 (Or.inr (slot_ne (t := (.array .long)) (t' := .int) (Or.inr (hw _ (List.mem_of_getElem? (i := 59) rfl))) (Or.inl (hw _ (List.mem_of_getElem? (i := 81) rfl))) (by decide) (by decide) (by decide))))
  have f23 := ((fw3.other W8 (Or.inr (slot_ne (t := .long) (t' := .long) (Or.inl (hw _ (List.mem_of_getElem? (i := 66) rfl))) (Or.inl (hw _ (List.mem_of_getElem? (i := 113) rfl))) (by decide) (by decide) (by decide)))).other W16 (Or.inr (slot_ne (t := .long) (t' := .int) (Or.inl (hw _ (List.mem_of_getElem? (i := 66) rfl))) (Or.inl (hw _ (List.mem_of_getElem? (i := 81) rfl))) (by decide) (by decide) (by decide))))
  have f24 := (fw8.other W16 (Or.inr (slot_ne (t := .long) (t' := .int) (Or.inl (hw _ (List.mem_of_getElem? (i := 113) rfl))) (Or.inl (hw _ (List.mem_of_getElem? (i := 81) rfl))) (by decide) (by decide) (by decide))))
  have f25 := (((F_a_load.other W3 (Or.inr (slot_ne (t := .long) (t' := .long) (Or.inl (hw _ (List.mem_of_getElem? (i := 83) rfl))) (Or.inl (hw _ (List.mem_of_getElem? (i := 66) rfl))) (by decide) (by decide) (by decide)))).other W8 (Or.inr (slot_ne (t := .long) (t' := .long) (Or.inl (hw _ (List.mem_of_getElem? (i := 83) rfl))) (Or.inl (hw _ (List.mem_of_getElem? (i := 113) rfl))) (by decide) (by decide) (by decide)))).other W16 (Or.inr (slot_ne (t := .long) (t' := .int) (Or.inl (hw _ (List.mem_of_getElem? (i := 83) rfl))) (Or.inl (hw _ (List.mem_of_getElem? (i := 81) rfl))) (by decide) (by decide) (by decide))))
  rw [e16]
  exact ⟨rfl, N16, kk16, f19, f20, f21, f22, (by unfold own_rst_newest; exact f23), (by unfold own_rst_newestNumber; exact f24), (by unfold own_rst_newestSlot; exact fw16), f25⟩
def own_pas_r (p1 : Int64) (u_b : Int64) (u_w : Int64) (u_n : Int64) (ts : List Int64) : Int64 := if (own_cmpU (p1 - u_n) u_b) < 0 then (0 : Int64) else if (own_cmpU (p1 - u_n) u_w) < 0 then ((p1 - u_n) / u_b) else ((Int32.ofNat ts.length).toInt64)
def Q_rm13 (Z : State) (a : Addr) (p1 : Int64) (u_b : Int64) (u_w : Int64) (u_t : Addr) (u_n : Int64) (ts : List Int64) (h0 : Heap) (n0 : Nat) (v : Option Value) (h : Heap) (L : List Loc) : Prop := v = some (.long (own_pas_r p1 u_b u_w u_n ts)) ∧ Fr n0 L ∧ h = h0
theorem d13_0 : decode prog_1_method_10_code 0 = .ok (.lload_n 1, 1) := by decide +kernel
theorem d13_1 : decode prog_1_method_10_code 1 = .ok (.aload_n 0, 1) := by decide +kernel
theorem d13_2 : decode prog_1_method_10_code 2 = .ok (.getfield 31, 3) := by decide +kernel
theorem d13_5 : decode prog_1_method_10_code 5 = .ok (.lsub, 1) := by decide +kernel
theorem d13_6 : decode prog_1_method_10_code 6 = .ok (.lstore_n 3, 1) := by decide +kernel
theorem d13_7 : decode prog_1_method_10_code 7 = .ok (.lload_n 3, 1) := by decide +kernel
theorem d13_8 : decode prog_1_method_10_code 8 = .ok (.aload_n 0, 1) := by decide +kernel
theorem d13_9 : decode prog_1_method_10_code 9 = .ok (.getfield 13, 3) := by decide +kernel
theorem d13_12 : decode prog_1_method_10_code 12 = .ok (.invokestatic 34, 3) := by decide +kernel
theorem d13_15 : decode prog_1_method_10_code 15 = .ok (.ifCond .ge 9, 3) := by decide +kernel
theorem d13_18 : decode prog_1_method_10_code 18 = .ok (.lconst 0, 1) := by decide +kernel
theorem d13_19 : decode prog_1_method_10_code 19 = .ok (.lstore 5, 2) := by decide +kernel
theorem d13_21 : decode prog_1_method_10_code 21 = .ok (.goto 33, 3) := by decide +kernel
theorem d13_24 : decode prog_1_method_10_code 24 = .ok (.lload_n 3, 1) := by decide +kernel
theorem d13_25 : decode prog_1_method_10_code 25 = .ok (.aload_n 0, 1) := by decide +kernel
theorem d13_26 : decode prog_1_method_10_code 26 = .ok (.getfield 21, 3) := by decide +kernel
theorem d13_29 : decode prog_1_method_10_code 29 = .ok (.invokestatic 34, 3) := by decide +kernel
theorem d13_32 : decode prog_1_method_10_code 32 = .ok (.ifCond .lt 14, 3) := by decide +kernel
theorem d13_35 : decode prog_1_method_10_code 35 = .ok (.aload_n 0, 1) := by decide +kernel
theorem d13_36 : decode prog_1_method_10_code 36 = .ok (.getfield 27, 3) := by decide +kernel
theorem d13_39 : decode prog_1_method_10_code 39 = .ok (.arraylength, 1) := by decide +kernel
theorem d13_40 : decode prog_1_method_10_code 40 = .ok (.i2l, 1) := by decide +kernel
theorem d13_41 : decode prog_1_method_10_code 41 = .ok (.lstore 5, 2) := by decide +kernel
theorem d13_43 : decode prog_1_method_10_code 43 = .ok (.goto 11, 3) := by decide +kernel
theorem d13_46 : decode prog_1_method_10_code 46 = .ok (.lload_n 3, 1) := by decide +kernel
theorem d13_47 : decode prog_1_method_10_code 47 = .ok (.aload_n 0, 1) := by decide +kernel
theorem d13_48 : decode prog_1_method_10_code 48 = .ok (.getfield 13, 3) := by decide +kernel
theorem d13_51 : decode prog_1_method_10_code 51 = .ok (.ldiv, 1) := by decide +kernel
theorem d13_52 : decode prog_1_method_10_code 52 = .ok (.lstore 5, 2) := by decide +kernel
theorem d13_54 : decode prog_1_method_10_code 54 = .ok (.lload 5, 2) := by decide +kernel
theorem d13_56 : decode prog_1_method_10_code 56 = .ok (.lreturn, 1) := by decide +kernel
set_option maxRecDepth 65536 in
set_option maxHeartbeats 40000000 in
theorem rm13 (l : Launch) (Z : State) (a0 : Array Value) (hw : ∀ d ∈ tables_1, d.before a0 Z = true) (ws : List Jvm.Cond) (a : Addr) (p1 : Int64) (u_b : Int64) (u_w : Int64) (u_t : Addr) (u_n : Int64) (ts : List Int64) (h0 : Heap) (n0 : Nat) (Z0 : n0 ≤ h0.size) (E_a : Exa Z h0 a "com/example/eschborn/eschborn/engine/BucketWindow") (F_a_bucket : Fld Z h0 a "com/example/eschborn/eschborn/engine/BucketWindow" "bucket" "J" (.long u_b)) (F_a_window : Fld Z h0 a "com/example/eschborn/eschborn/engine/BucketWindow" "window" "J" (.long u_w)) (F_a_totals : Fld Z h0 a "com/example/eschborn/eschborn/engine/BucketWindow" "totals" "[J" (.ref u_t)) (F_a_newest : Fld Z h0 a "com/example/eschborn/eschborn/engine/BucketWindow" "newest" "J" (.long u_n)) (A_u_t : own_LA Z h0 u_t ts) (hnz : u_b ≠ 0) :
    MetFree l (⟨"com/example/eschborn/eschborn/engine/BucketWindow", "passed", "(J)J"⟩ : MethodName) (head1 (Jvm.Cond.code (⟨"com/example/eschborn/eschborn/engine/BucketWindow", "passed", "(J)J"⟩ : MethodName) prog_1_method_10_code 7 (some .long) :: ws) ({ frames := 2, cells := 0, slots := 0, locals := 30 } : Room)) (fun aa U => aa = #[(.ref a), (.long p1)] ∧ Z.Warmed39 U.vm ∧ U.heap = h0) (fun _ _ _ _ _ => True) (fun _ U o U' => ∃ v L, o = .returned v ∧ Q_rm13 Z a p1 u_b u_w u_t u_n ts h0 n0 v U'.heap L ∧ FrameEnd U o U' L ({ frames := 2, cells := 0, slots := 0, locals := 30 } : Room).cells ({ frames := 2, cells := 0, slots := 0, locals := 30 } : Room).slots) := by
  refine MetFree.of_bodySF (plainFor_of_name own_pn3) hisR ?_
  intro p e s m args below meth c s₁ Bd hml0 hP hK
  obtain ⟨rfl, hZ, hh⟩ := hP
  have hx := Bd.exec
  have hby := Bd.bytes
  have hml : c.maxLocals = 7 := hml0
  have hlk : meth.locks = false := BodyLoose.notSynchronized Bd
  have hown : s.vm.findClass "com/example/eschborn/eschborn/engine/BucketWindow" = some m.cls := findClass_of_methodNamed Bd.named
  have hnm := (name_of_methodNamed Bd.named Bd.method).1
  have X0 : Stand p l e ({ frames := 2, cells := 0, slots := 0, locals := 30 } : Room) s m #[(.ref a), (.long p1)] below meth c s₁ [] 0 0 := Stand.of_body Bd
  have e0 : s₁.heap = h0 := by rw [← hh, Bd.state]; rfl
  have N0 := Fr.nil n0
  show own_Go p e below s (Q_rm13 Z a p1 u_b u_w u_t u_n ts h0 n0) 0 0 (s₁.setTop (entryFrame m #[(.ref a), (.long p1)] 7))
  refine own_go (B := s₁.setTop (mkF m 0 #[.val (.ref a), .val (.long p1), .second, .unset, .unset, .unset, .unset] [])) (fun tgt cont => (XT.entry rfl).trans cont) ?_
  have ne_a_u_t := own_neA E_a (hw _ (List.mem_of_getElem? (i := 3) rfl)) A_u_t.arr
  refine own_go (B := s₁.setTop (mkF m 2 #[.val (.ref a), .val (.long p1), .second, .unset, .unset, .unset, .unset] [(.ref a), (.long p1)])) (fun tgt cont => ?_) ?_
  · refine XS.lloadN X0.here hx rfl (hb hby d13_0) rfl ?_
    refine XS.aloadN X0.here hx rfl (hb hby d13_1) rfl rfl ?_
    exact cont
  obtain ⟨T1, X1, e1, st1⟩ := getF X0 hx hZ hown (host := "") (Or.inl (hw _ (List.mem_of_getElem? (i := 65) rfl))) Via.refl e0 F_a_newest (g := (mkF m 2 #[.val (.ref a), .val (.long p1), .second, .unset, .unset, .unset, .unset] [(.ref a), (.long p1)])) rfl rfl (hb hby d13_2)
  refine own_go (fun tgt cont => st1 tgt cont) ?_
  show own_Go p e below s (Q_rm13 Z a p1 u_b u_w u_t u_n ts h0 n0) 0 0 (T1.setTop (mkF m 5 #[.val (.ref a), .val (.long p1), .second, .unset, .unset, .unset, .unset] [(.long u_n), (.long p1)]))
  refine own_go (B := T1.setTop (mkF m 9 #[.val (.ref a), .val (.long p1), .second, .val (.long (p1 - u_n)), .second, .unset, .unset] [(.ref a), (.long (p1 - u_n))])) (fun tgt cont => ?_) ?_
  · refine XS.lsub X1.here hx rfl (hb hby d13_5) rfl ?_
    refine XS.lstoreN X1.here hx rfl (hb hby d13_6) rfl (l' := #[.val (.ref a), .val (.long p1), .second, .val (.long (p1 - u_n)), .second, .unset, .unset]) rfl ?_
    refine XS.lloadN X1.here hx rfl (hb hby d13_7) rfl ?_
    refine XS.aloadN X1.here hx rfl (hb hby d13_8) rfl rfl ?_
    exact cont
  obtain ⟨T2, X2, e2, st2⟩ := getF X1 hx hZ hown (host := "") (Or.inl (hw _ (List.mem_of_getElem? (i := 43) rfl))) Via.refl e1 F_a_bucket (g := (mkF m 9 #[.val (.ref a), .val (.long p1), .second, .val (.long (p1 - u_n)), .second, .unset, .unset] [(.ref a), (.long (p1 - u_n))])) rfl rfl (hb hby d13_9)
  refine own_go (fun tgt cont => st2 tgt cont) ?_
  show own_Go p e below s (Q_rm13 Z a p1 u_b u_w u_t u_n ts h0 n0) 0 0 (T2.setTop (mkF m 12 #[.val (.ref a), .val (.long p1), .second, .val (.long (p1 - u_n)), .second, .unset, .unset] [(.long u_b), (.long (p1 - u_n))]))
  -- pc 12: Long.compareUnsigned
  obtain ⟨_, _, ⟨T3, L3, k3, n3⟩, -, X3, ⟨Lc3, hQ3, l3, y3, z3⟩, st3⟩ := Jvm.LawKit.callS X2 hx (y := (⟨"java/lang/Long", "compareUnsigned", "(JJ)I"⟩ : MethodName)) hown (mvT hZ (hw _ (List.mem_of_getElem? (i := 67) rfl))) (mvT hZ (hw _ (List.mem_of_getElem? (i := 68) rfl))) (mvT hZ (hw _ (List.mem_of_getElem? (i := 69) rfl))) (mvT hZ (hw _ (List.mem_of_getElem? (i := 70) rfl))) (by decide) (backOf (W := 0) (rm9 l Z a0 hw [] (p1 - u_n) u_b h0 n0 Z0 ) hZ (hw _ (List.mem_of_getElem? (i := 70) rfl)) (hw _ (List.mem_of_getElem? (i := 69) rfl)) (by decide) (by decide)) (g := (mkF m 12 #[.val (.ref a), .val (.long p1), .second, .val (.long (p1 - u_n)), .second, .unset, .unset] [(.long u_b), (.long (p1 - u_n))])) rfl (by rw [hml]; rfl) (argsL := [(.long (p1 - u_n)), (.long u_b)]) (rest := []) (lenOf own_pd1 rfl) rfl (by show 2 * 0 + _ ≤ _; exact Nat.le_of_eq rfl) (hb hby d13_12) (fun _ _ => ⟨rfl, e2, (by decide : 0 + 0 ≤ _), (by decide : 0 + 0 ≤ _)⟩)
  dsimp only [Pt.U, Pt.locs, Pt.cells, Pt.slots] at X3 l3 y3 z3 st3 hQ3
  subst l3 y3 z3
  obtain ⟨rfl, N3q, e3⟩ := hQ3
  have N3 := Fr.app N0 N3q
  refine own_go (fun tgt cont => st3 tgt cont) ?_
  show own_Go p e below s (Q_rm13 Z a p1 u_b u_w u_t u_n ts h0 n0) 0 0 (T3.setTop (mkF m 15 #[.val (.ref a), .val (.long p1), .second, .val (.long (p1 - u_n)), .second, .unset, .unset] [(.int (own_cmpU (p1 - u_n) u_b))]))
  by_cases hc4 : (own_cmpU (p1 - u_n) u_b) < 0
  ·
    refine own_go (B := T3.setTop (mkF m 56 #[.val (.ref a), .val (.long p1), .second, .val (.long (p1 - u_n)), .second, .val (.long (0 : Int64)), .second] [(.long (0 : Int64))])) (fun tgt cont => ?_) ?_
    · refine XS.ifNo X3.here hx rfl (hb hby d13_15) rfl (XT.i0_ge_f hc4) ?_
      refine XT.lconstV X3.here hx rfl (0 : Int64) (hb hby d13_18) rfl ?_
      refine XS.lstore X3.here hx rfl (hb hby d13_19) rfl (l' := #[.val (.ref a), .val (.long p1), .second, .val (.long (p1 - u_n)), .second, .val (.long (0 : Int64)), .second]) rfl ?_
      refine XS.goto X3.here hx rfl (pc0 := 21) (pc' := 54) rfl (hb hby d13_21) (by decide) (by decide) ?_
      refine XS.lload X3.here hx rfl (hb hby d13_54) rfl ?_
      exact cont
    refine own_end X3 (v := some (.long (0 : Int64))) (fun h => by rw [Bd.returns] at h; cases h) hlk ?_ (by decide) (by decide) (fun fs hl => retOut X3 hx Bd.returns rfl (Or.inr (Or.inl ⟨rfl, rfl, _, rfl⟩)) (hb hby d13_56) hl)
    exact ⟨(by unfold own_pas_r; first | (simp only [if_pos hc4]; done) | (simp only [if_pos hc4]; exact rfl) | exact rfl), N3, e3⟩
  ·
    refine own_go (B := T3.setTop (mkF m 26 #[.val (.ref a), .val (.long p1), .second, .val (.long (p1 - u_n)), .second, .unset, .unset] [(.ref a), (.long (p1 - u_n))])) (fun tgt cont => ?_) ?_
    · refine XS.ifYes X3.here hx rfl (pc0 := 15) (pc' := 24) rfl (hb hby d13_15) rfl (XT.i0_ge_t hc4) (by decide) (by decide) ?_
      refine XS.lloadN X3.here hx rfl (hb hby d13_24) rfl ?_
      refine XS.aloadN X3.here hx rfl (hb hby d13_25) rfl rfl ?_
      exact cont
    obtain ⟨T5, X5, e5, st5⟩ := getF X3 hx hZ hown (host := "") (Or.inl (hw _ (List.mem_of_getElem? (i := 50) rfl))) Via.refl e3 F_a_window (g := (mkF m 26 #[.val (.ref a), .val (.long p1), .second, .val (.long (p1 - u_n)), .second, .unset, .unset] [(.ref a), (.long (p1 - u_n))])) rfl rfl (hb hby d13_26)
    refine own_go (fun tgt cont => st5 tgt cont) ?_
    show own_Go p e below s (Q_rm13 Z a p1 u_b u_w u_t u_n ts h0 n0) 0 0 (T5.setTop (mkF m 29 #[.val (.ref a), .val (.long p1), .second, .val (.long (p1 - u_n)), .second, .unset, .unset] [(.long u_w), (.long (p1 - u_n))]))
    -- pc 29: Long.compareUnsigned
    obtain ⟨_, _, ⟨T6, L6, k6, n6⟩, -, X6, ⟨Lc6, hQ6, l6, y6, z6⟩, st6⟩ := Jvm.LawKit.callS X5 hx (y := (⟨"java/lang/Long", "compareUnsigned", "(JJ)I"⟩ : MethodName)) hown (mvT hZ (hw _ (List.mem_of_getElem? (i := 67) rfl))) (mvT hZ (hw _ (List.mem_of_getElem? (i := 68) rfl))) (mvT hZ (hw _ (List.mem_of_getElem? (i := 69) rfl))) (mvT hZ (hw _ (List.mem_of_getElem? (i := 70) rfl))) (by decide) (backOf (W := 0) (rm9 l Z a0 hw [] (p1 - u_n) u_w h0 n0 Z0 ) hZ (hw _ (List.mem_of_getElem? (i := 70) rfl)) (hw _ (List.mem_of_getElem? (i := 69) rfl)) (by decide) (by decide)) (g := (mkF m 29 #[.val (.ref a), .val (.long p1), .second, .val (.long (p1 - u_n)), .second, .unset, .unset] [(.long u_w), (.long (p1 - u_n))])) rfl (by rw [hml]; rfl) (argsL := [(.long (p1 - u_n)), (.long u_w)]) (rest := []) (lenOf own_pd1 rfl) rfl (by show 2 * 0 + _ ≤ _; exact Nat.le_of_eq rfl) (hb hby d13_29) (fun _ _ => ⟨rfl, e5, (by decide : 0 + 0 + 0 ≤ _), (by decide : 0 + 0 + 0 ≤ _)⟩)
    dsimp only [Pt.U, Pt.locs, Pt.cells, Pt.slots] at X6 l6 y6 z6 st6 hQ6
    subst l6 y6 z6
    obtain ⟨rfl, N6q, e6⟩ := hQ6
    have N6 := Fr.app N3 N6q
    refine own_go (fun tgt cont => st6 tgt cont) ?_
    show own_Go p e below s (Q_rm13 Z a p1 u_b u_w u_t u_n ts h0 n0) 0 0 (T6.setTop (mkF m 32 #[.val (.ref a), .val (.long p1), .second, .val (.long (p1 - u_n)), .second, .unset, .unset] [(.int (own_cmpU (p1 - u_n) u_w))]))
    by_cases hc7 : (own_cmpU (p1 - u_n) u_w) < 0
    ·
      refine own_go (B := T6.setTop (mkF m 48 #[.val (.ref a), .val (.long p1), .second, .val (.long (p1 - u_n)), .second, .unset, .unset] [(.ref a), (.long (p1 - u_n))])) (fun tgt cont => ?_) ?_
      · refine XS.ifYes X6.here hx rfl (pc0 := 32) (pc' := 46) rfl (hb hby d13_32) rfl (XT.i0_lt_t hc7) (by decide) (by decide) ?_
        refine XS.lloadN X6.here hx rfl (hb hby d13_46) rfl ?_
        refine XS.aloadN X6.here hx rfl (hb hby d13_47) rfl rfl ?_
        exact cont
      obtain ⟨T8, X8, e8, st8⟩ := getF X6 hx hZ hown (host := "") (Or.inl (hw _ (List.mem_of_getElem? (i := 43) rfl))) Via.refl e6 F_a_bucket (g := (mkF m 48 #[.val (.ref a), .val (.long p1), .second, .val (.long (p1 - u_n)), .second, .unset, .unset] [(.ref a), (.long (p1 - u_n))])) rfl rfl (hb hby d13_48)
      refine own_go (fun tgt cont => st8 tgt cont) ?_
      show own_Go p e below s (Q_rm13 Z a p1 u_b u_w u_t u_n ts h0 n0) 0 0 (T8.setTop (mkF m 51 #[.val (.ref a), .val (.long p1), .second, .val (.long (p1 - u_n)), .second, .unset, .unset] [(.long u_b), (.long (p1 - u_n))]))
      refine own_go (B := T8.setTop (mkF m 56 #[.val (.ref a), .val (.long p1), .second, .val (.long (p1 - u_n)), .second, .val (.long ((p1 - u_n) / u_b)), .second] [(.long ((p1 - u_n) / u_b))])) (fun tgt cont => ?_) ?_
      · refine XS.ldiv X8.here hx rfl (hb hby d13_51) rfl hnz ?_
        refine XS.lstore X8.here hx rfl (hb hby d13_52) rfl (l' := #[.val (.ref a), .val (.long p1), .second, .val (.long (p1 - u_n)), .second, .val (.long ((p1 - u_n) / u_b)), .second]) rfl ?_
        refine XS.lload X8.here hx rfl (hb hby d13_54) rfl ?_
        exact cont
      refine own_end X8 (v := some (.long ((p1 - u_n) / u_b))) (fun h => by rw [Bd.returns] at h; cases h) hlk ?_ (by decide) (by decide) (fun fs hl => retOut X8 hx Bd.returns rfl (Or.inr (Or.inl ⟨rfl, rfl, _, rfl⟩)) (hb hby d13_56) hl)
      exact ⟨(by unfold own_pas_r; first | (simp only [if_neg hc4, if_pos hc7]; done) | (simp only [if_neg hc4, if_pos hc7]; exact rfl) | exact rfl), N6, e8⟩
    ·
      refine own_go (B := T6.setTop (mkF m 36 #[.val (.ref a), .val (.long p1), .second, .val (.long (p1 - u_n)), .second, .unset, .unset] [(.ref a)])) (fun tgt cont => ?_) ?_
      · refine XS.ifNo X6.here hx rfl (hb hby d13_32) rfl (XT.i0_lt_f hc7) ?_
        refine XS.aloadN X6.here hx rfl (hb hby d13_35) rfl rfl ?_
        exact cont
      obtain ⟨T9, X9, e9, st9⟩ := getF X6 hx hZ hown (host := "") (Or.inl (hw _ (List.mem_of_getElem? (i := 58) rfl))) Via.refl e6 F_a_totals (g := (mkF m 36 #[.val (.ref a), .val (.long p1), .second, .val (.long (p1 - u_n)), .second, .unset, .unset] [(.ref a)])) rfl rfl (hb hby d13_36)
      refine own_go (fun tgt cont => st9 tgt cont) ?_
      show own_Go p e below s (Q_rm13 Z a p1 u_b u_w u_t u_n ts h0 n0) 0 0 (T9.setTop (mkF m 39 #[.val (.ref a), .val (.long p1), .second, .val (.long (p1 - u_n)), .second, .unset, .unset] [(.ref u_t)]))
      refine own_go (B := T9.setTop (mkF m 56 #[.val (.ref a), .val (.long p1), .second, .val (.long (p1 - u_n)), .second, .val (.long ((Int32.ofNat ts.length).toInt64)), .second] [(.long ((Int32.ofNat ts.length).toInt64))])) (fun tgt cont => ?_) ?_
      · refine own_lenLA X9 hx hZ e9 A_u_t (g := (mkF m 39 #[.val (.ref a), .val (.long p1), .second, .val (.long (p1 - u_n)), .second, .unset, .unset] [(.ref u_t)])) rfl rfl (hb hby d13_39) ?_
        refine XS.i2l X9.here hx rfl (hb hby d13_40) rfl ?_
        refine XS.lstore X9.here hx rfl (hb hby d13_41) rfl (l' := #[.val (.ref a), .val (.long p1), .second, .val (.long (p1 - u_n)), .second, .val (.long ((Int32.ofNat ts.length).toInt64)), .second]) rfl ?_
        refine XS.goto X9.here hx rfl (pc0 := 43) (pc' := 54) rfl (hb hby d13_43) (by decide) (by decide) ?_
        refine XS.lload X9.here hx rfl (hb hby d13_54) rfl ?_
        exact cont
      refine own_end X9 (v := some (.long ((Int32.ofNat ts.length).toInt64))) (fun h => by rw [Bd.returns] at h; cases h) hlk ?_ (by decide) (by decide) (fun fs hl => retOut X9 hx Bd.returns rfl (Or.inr (Or.inl ⟨rfl, rfl, _, rfl⟩)) (hb hby d13_56) hl)
      exact ⟨(by unfold own_pas_r; first | (simp only [if_neg hc4, if_neg hc7]; done) | (simp only [if_neg hc4, if_neg hc7]; exact rfl) | exact rfl), N6, e9⟩
theorem own_fillS {ts : List Int64} {i : Nat} {x : Int64} (h : i < ts.length) : (List.replicate i x ++ ts.drop i).set i x = List.replicate (i + 1) x ++ ts.drop (i + 1) := by
  rw [List.set_append_right i x (by rw [List.length_replicate]; exact Nat.le_refl i), List.length_replicate, Nat.sub_self, List.drop_eq_getElem_cons h, List.set_cons_zero, List.replicate_succ', List.append_assoc]; rfl
theorem own_fillE {ts : List Int64} {i : Nat} {x : Int64} (h : ts.length ≤ i) (h2 : i ≤ ts.length) : List.replicate i x ++ ts.drop i = List.replicate ts.length x := by
  rw [List.drop_of_length_le h, List.append_nil, Nat.le_antisymm h2 h]
def Q_rm14 (Z : State) (a : Addr) (p1 : Int64) (ts : List Int64) (h0 : Heap) (n0 : Nat) (v : Option Value) (h : Heap) (L : List Loc) : Prop := v = none ∧ Fr n0 L ∧ Keep h0 h [a] ∧ own_LA Z h a (List.replicate ts.length p1)
theorem own_pn5 : plainName "java/util/Arrays" = true := by first | (simp [plainName, overriddenIn]; done) | decide +kernel
theorem d14_0 : decode jdk_65_method_101_code 0 = .ok (.iconst 0, 1) := by decide +kernel
theorem d14_1 : decode jdk_65_method_101_code 1 = .ok (.istore_n 3, 1) := by decide +kernel
theorem d14_2 : decode jdk_65_method_101_code 2 = .ok (.aload_n 0, 1) := by decide +kernel
theorem d14_3 : decode jdk_65_method_101_code 3 = .ok (.arraylength, 1) := by decide +kernel
theorem d14_4 : decode jdk_65_method_101_code 4 = .ok (.istore 4, 2) := by decide +kernel
theorem d14_6 : decode jdk_65_method_101_code 6 = .ok (.iload_n 3, 1) := by decide +kernel
theorem d14_7 : decode jdk_65_method_101_code 7 = .ok (.iload 4, 2) := by decide +kernel
theorem d14_9 : decode jdk_65_method_101_code 9 = .ok (.if_icmp .ge 13, 3) := by decide +kernel
theorem d14_12 : decode jdk_65_method_101_code 12 = .ok (.aload_n 0, 1) := by decide +kernel
theorem d14_13 : decode jdk_65_method_101_code 13 = .ok (.iload_n 3, 1) := by decide +kernel
theorem d14_14 : decode jdk_65_method_101_code 14 = .ok (.lload_n 1, 1) := by decide +kernel
theorem d14_15 : decode jdk_65_method_101_code 15 = .ok (.lastore, 1) := by decide +kernel
theorem d14_16 : decode jdk_65_method_101_code 16 = .ok (.iinc 3 1, 3) := by decide +kernel
theorem d14_19 : decode jdk_65_method_101_code 19 = .ok (.goto (-13), 3) := by decide +kernel
theorem d14_22 : decode jdk_65_method_101_code 22 = .ok (.return_, 1) := by decide +kernel
set_option maxRecDepth 65536 in
set_option maxHeartbeats 40000000 in
theorem rm14 (l : Launch) (Z : State) (a0 : Array Value) (hw : ∀ d ∈ tables_1, d.before a0 Z = true) (ws : List Jvm.Cond) (a : Addr) (p1 : Int64) (ts : List Int64) (h0 : Heap) (n0 : Nat) (Z0 : n0 ≤ h0.size) (A_a : own_LA Z h0 a ts) (g_a : n0 ≤ a)  :
    MetFree l (⟨"java/util/Arrays", "fill", "([JJ)V"⟩ : MethodName) (head1 (Jvm.Cond.code (⟨"java/util/Arrays", "fill", "([JJ)V"⟩ : MethodName) jdk_65_method_101_code 5 none :: ws) ({ frames := 0, cells := 0, slots := 0, locals := 0 } : Room)) (fun aa U => aa = #[(.ref a), (.long p1)] ∧ Z.Warmed39 U.vm ∧ U.heap = h0) (fun _ _ _ _ _ => True) (fun _ U o U' => ∃ v L, o = .returned v ∧ Q_rm14 Z a p1 ts h0 n0 v U'.heap L ∧ FrameEnd U o U' L ({ frames := 0, cells := 0, slots := 0, locals := 0 } : Room).cells ({ frames := 0, cells := 0, slots := 0, locals := 0 } : Room).slots) := by
  refine MetFree.of_bodySF (plainFor_of_name own_pn5) hisR ?_
  intro p e s m args below meth c s₁ Bd hml0 hP hK
  obtain ⟨rfl, hZ, hh⟩ := hP
  have hx := Bd.exec
  have hby := Bd.bytes
  have hml : c.maxLocals = 5 := hml0
  have hlk : meth.locks = false := BodyLoose.notSynchronized Bd
  have hown : s.vm.findClass "java/util/Arrays" = some m.cls := findClass_of_methodNamed Bd.named
  have hnm := (name_of_methodNamed Bd.named Bd.method).1
  have X0 : Stand p l e ({ frames := 0, cells := 0, slots := 0, locals := 0 } : Room) s m #[(.ref a), (.long p1)] below meth c s₁ [] 0 0 := Stand.of_body Bd
  have e0 : s₁.heap = h0 := by rw [← hh, Bd.state]; rfl
  have N0 := Fr.nil n0
  show own_Go p e below s (Q_rm14 Z a p1 ts h0 n0) 0 0 (s₁.setTop (entryFrame m #[(.ref a), (.long p1)] 5))
  refine own_go (B := s₁.setTop (mkF m 0 #[.val (.ref a), .val (.long p1), .second, .unset, .unset] [])) (fun tgt cont => (XT.entry rfl).trans cont) ?_
  refine own_go (B := s₁.setTop (mkF m 6 #[.val (.ref a), .val (.long p1), .second, .val (.int (0 : Int32)), .val (.int (Int32.ofNat ts.length))] [])) (fun tgt cont => ?_) ?_
  · refine XT.iconstV X0.here hx rfl (0 : Int32) (hb hby d14_0) rfl ?_
    refine XS.istoreN X0.here hx rfl (hb hby d14_1) rfl (l' := #[.val (.ref a), .val (.long p1), .second, .val (.int (0 : Int32)), .unset]) rfl ?_
    refine XS.aloadN X0.here hx rfl (hb hby d14_2) rfl rfl ?_
    refine own_lenLA X0 hx hZ e0 A_a (g := (mkF m 3 #[.val (.ref a), .val (.long p1), .second, .val (.int (0 : Int32)), .unset] [(.ref a)])) rfl rfl (hb hby d14_3) ?_
    refine XS.istore X0.here hx rfl (hb hby d14_4) rfl (l' := #[.val (.ref a), .val (.long p1), .second, .val (.int (0 : Int32)), .val (.int (Int32.ofNat ts.length))]) rfl ?_
    exact cont
  have LP : ∀ (f i : Nat) (T : State) (L : List Loc) (h : Heap) (qs : List Int64) (X : Stand p l e ({ frames := 0, cells := 0, slots := 0, locals := 0 } : Room) s m #[(.ref a), (.long p1)] below meth c T L 0 0) (eT : T.heap = h) (N : Fr n0 L) (kk : Keep h0 h [a]) (Aa : own_LA Z h a qs) (hm : ts.length - i < f) (hi : i ≤ ts.length) (hq : qs = List.replicate i p1 ++ ts.drop i), own_Go p e below s (Q_rm14 Z a p1 ts h0 n0) 0 0 (T.setTop (mkF m 6 #[.val (.ref a), .val (.long p1), .second, .val (.int (Int32.ofNat i)), .val (.int (Int32.ofNat ts.length))] [])) := by
    intro f
    induction f with
    | zero => intro i T L h qs X eT N kk Aa hm; omega
    | succ f ih =>
      intro i T L h qs X eT N kk Aa hm hi hq
      have zp : n0 ≤ h.size := Nat.le_trans Z0 kk.1
      have hl : qs.length = ts.length := by rw [hq, List.length_append, List.length_replicate, List.length_drop]; omega
      refine own_go (B := T.setTop (mkF m 9 #[.val (.ref a), .val (.long p1), .second, .val (.int (Int32.ofNat i)), .val (.int (Int32.ofNat ts.length))] [(.int (Int32.ofNat ts.length)), (.int (Int32.ofNat i))])) (fun tgt cont => ?_) ?_
      · refine XS.iloadN X.here hx rfl (hb hby d14_6) rfl ?_
        refine XS.iload X.here hx rfl (hb hby d14_7) rfl ?_
        exact cont
      by_cases hc1 : (Int32.ofNat i) < (Int32.ofNat ts.length)
      ·
        refine own_go (B := T.setTop (mkF m 15 #[.val (.ref a), .val (.long p1), .second, .val (.int (Int32.ofNat i)), .val (.int (Int32.ofNat ts.length))] [(.long p1), (.int (Int32.ofNat i)), (.ref a)])) (fun tgt cont => ?_) ?_
        · refine XS.icmpNo X.here hx rfl (hb hby d14_9) rfl (XT.ii_ge_f hc1) ?_
          refine XS.aloadN X.here hx rfl (hb hby d14_12) rfl rfl ?_
          refine XS.iloadN X.here hx rfl (hb hby d14_13) rfl ?_
          refine XS.lloadN X.here hx rfl (hb hby d14_14) rfl ?_
          exact cont
        obtain ⟨T2, h2, X2, e2, W2, A2, st2⟩ := own_stLAn X hx hZ eT Aa (i := i) (x := p1) (by rw [hl]; exact own_ofNat_lt hc1 A_a.small hi) (g := (mkF m 15 #[.val (.ref a), .val (.long p1), .second, .val (.int (Int32.ofNat i)), .val (.int (Int32.ofNat ts.length))] [(.long p1), (.int (Int32.ofNat i)), (.ref a)])) rfl rfl (hb hby d14_15)
        have N2 := Fr.snoc X2 N g_a
        have kk2 : Keep h0 h2 [a] := kk.wr W2 (Or.inl (List.mem_of_getElem? (i := 0) rfl))
        have zp2 : n0 ≤ h2.size := Nat.le_trans Z0 kk2.1
        refine own_go (fun tgt cont => st2 tgt cont) ?_
        show own_Go p e below s (Q_rm14 Z a p1 ts h0 n0) 0 0 (T2.setTop (mkF m 16 #[.val (.ref a), .val (.long p1), .second, .val (.int (Int32.ofNat i)), .val (.int (Int32.ofNat ts.length))] []))
        refine own_go (B := T2.setTop (mkF m 6 #[.val (.ref a), .val (.long p1), .second, .val (.int ((Int32.ofNat i) + (1 : Int32))), .val (.int (Int32.ofNat ts.length))] [])) (fun tgt cont => ?_) ?_
        · refine XT.iincV X2.here hx rfl (1 : Int32) (hb hby d14_16) rfl rfl (l' := #[.val (.ref a), .val (.long p1), .second, .val (.int ((Int32.ofNat i) + (1 : Int32))), .val (.int (Int32.ofNat ts.length))]) rfl ?_
          refine XS.goto X2.here hx rfl (pc0 := 19) (pc' := 6) rfl (hb hby d14_19) (by decide) (by decide) ?_
          exact cont
        rw [own_one]
        have q := own_ofNat_lt hc1 A_a.small hi
        exact ih (i + 1) _ _ _ _ X2 e2 N2 kk2 A2 (by omega) (by omega) (by rw [hq]; exact own_fillS q)
      ·
        refine own_go (B := T.setTop (mkF m 22 #[.val (.ref a), .val (.long p1), .second, .val (.int (Int32.ofNat i)), .val (.int (Int32.ofNat ts.length))] [])) (fun tgt cont => ?_) ?_
        · refine XS.icmpYes X.here hx rfl (pc0 := 9) (pc' := 22) rfl (hb hby d14_9) rfl (XT.ii_ge_t hc1) (by decide) (by decide) ?_
          exact cont
        refine own_end X (v := none) (fun _ => rfl) hlk ?_ (by decide) (by decide) (fun fs hl => X.returnOut hx Bd.returns (hb hby d14_22) hl)
        rw [eT]
        exact ⟨rfl, N, kk, (Aa.cong (by rw [hq]; exact own_fillE (own_ofNat_nlt hc1 A_a.small hi) hi))⟩
  exact LP _ 0 _ _ _ _ X0 e0 N0 (Keep.refl h0 [a]) A_a (Nat.lt_succ_self _) (Nat.zero_le _) rfl
def own_aft_r (p1 : Int32) (ts : List Int64) : Int32 := if (p1 + (1 : Int32)) = (Int32.ofNat ts.length) then (0 : Int32) else (p1 + (1 : Int32))
def Q_rm21 (Z : State) (a : Addr) (p1 : Int32) (u_t : Addr) (ts : List Int64) (h0 : Heap) (n0 : Nat) (v : Option Value) (h : Heap) (L : List Loc) : Prop := v = some (.int (own_aft_r p1 ts)) ∧ Fr n0 L ∧ h = h0
theorem d21_0 : decode prog_1_method_12_code 0 = .ok (.iload_n 1, 1) := by decide +kernel
theorem d21_1 : decode prog_1_method_12_code 1 = .ok (.iconst 1, 1) := by decide +kernel
theorem d21_2 : decode prog_1_method_12_code 2 = .ok (.iadd, 1) := by decide +kernel
theorem d21_3 : decode prog_1_method_12_code 3 = .ok (.aload_n 0, 1) := by decide +kernel
theorem d21_4 : decode prog_1_method_12_code 4 = .ok (.getfield 27, 3) := by decide +kernel
theorem d21_7 : decode prog_1_method_12_code 7 = .ok (.arraylength, 1) := by decide +kernel
theorem d21_8 : decode prog_1_method_12_code 8 = .ok (.if_icmp .ne 7, 3) := by decide +kernel
theorem d21_11 : decode prog_1_method_12_code 11 = .ok (.iconst 0, 1) := by decide +kernel
theorem d21_12 : decode prog_1_method_12_code 12 = .ok (.goto 6, 3) := by decide +kernel
theorem d21_15 : decode prog_1_method_12_code 15 = .ok (.iload_n 1, 1) := by decide +kernel
theorem d21_16 : decode prog_1_method_12_code 16 = .ok (.iconst 1, 1) := by decide +kernel
theorem d21_17 : decode prog_1_method_12_code 17 = .ok (.iadd, 1) := by decide +kernel
theorem d21_18 : decode prog_1_method_12_code 18 = .ok (.ireturn, 1) := by decide +kernel
set_option maxRecDepth 65536 in
set_option maxHeartbeats 40000000 in
theorem rm21 (l : Launch) (Z : State) (a0 : Array Value) (hw : ∀ d ∈ tables_1, d.before a0 Z = true) (ws : List Jvm.Cond) (a : Addr) (p1 : Int32) (u_t : Addr) (ts : List Int64) (h0 : Heap) (n0 : Nat) (Z0 : n0 ≤ h0.size) (E_a : Exa Z h0 a "com/example/eschborn/eschborn/engine/BucketWindow") (F_a_totals : Fld Z h0 a "com/example/eschborn/eschborn/engine/BucketWindow" "totals" "[J" (.ref u_t)) (A_u_t : own_LA Z h0 u_t ts)  :
    MetFree l (⟨"com/example/eschborn/eschborn/engine/BucketWindow", "after", "(I)I"⟩ : MethodName) (head1 (Jvm.Cond.code (⟨"com/example/eschborn/eschborn/engine/BucketWindow", "after", "(I)I"⟩ : MethodName) prog_1_method_12_code 2 (some .int) :: ws) ({ frames := 0, cells := 0, slots := 0, locals := 0 } : Room)) (fun aa U => aa = #[(.ref a), (.int p1)] ∧ Z.Warmed39 U.vm ∧ U.heap = h0) (fun _ _ _ _ _ => True) (fun _ U o U' => ∃ v L, o = .returned v ∧ Q_rm21 Z a p1 u_t ts h0 n0 v U'.heap L ∧ FrameEnd U o U' L ({ frames := 0, cells := 0, slots := 0, locals := 0 } : Room).cells ({ frames := 0, cells := 0, slots := 0, locals := 0 } : Room).slots) := by
  refine MetFree.of_bodySF (plainFor_of_name own_pn3) hisR ?_
  intro p e s m args below meth c s₁ Bd hml0 hP hK
  obtain ⟨rfl, hZ, hh⟩ := hP
  have hx := Bd.exec
  have hby := Bd.bytes
  have hml : c.maxLocals = 2 := hml0
  have hlk : meth.locks = false := BodyLoose.notSynchronized Bd
  have hown : s.vm.findClass "com/example/eschborn/eschborn/engine/BucketWindow" = some m.cls := findClass_of_methodNamed Bd.named
  have hnm := (name_of_methodNamed Bd.named Bd.method).1
  have X0 : Stand p l e ({ frames := 0, cells := 0, slots := 0, locals := 0 } : Room) s m #[(.ref a), (.int p1)] below meth c s₁ [] 0 0 := Stand.of_body Bd
  have e0 : s₁.heap = h0 := by rw [← hh, Bd.state]; rfl
  have N0 := Fr.nil n0
  show own_Go p e below s (Q_rm21 Z a p1 u_t ts h0 n0) 0 0 (s₁.setTop (entryFrame m #[(.ref a), (.int p1)] 2))
  refine own_go (B := s₁.setTop (mkF m 0 #[.val (.ref a), .val (.int p1)] [])) (fun tgt cont => (XT.entry rfl).trans cont) ?_
  have ne_a_u_t := own_neA E_a (hw _ (List.mem_of_getElem? (i := 3) rfl)) A_u_t.arr
  refine own_go (B := s₁.setTop (mkF m 4 #[.val (.ref a), .val (.int p1)] [(.ref a), (.int (p1 + (1 : Int32)))])) (fun tgt cont => ?_) ?_
  · refine XS.iloadN X0.here hx rfl (hb hby d21_0) rfl ?_
    refine XT.iconstV X0.here hx rfl (1 : Int32) (hb hby d21_1) rfl ?_
    refine XS.iadd X0.here hx rfl (hb hby d21_2) rfl ?_
    refine XS.aloadN X0.here hx rfl (hb hby d21_3) rfl rfl ?_
    exact cont
  obtain ⟨T1, X1, e1, st1⟩ := getF X0 hx hZ hown (host := "") (Or.inl (hw _ (List.mem_of_getElem? (i := 58) rfl))) Via.refl e0 F_a_totals (g := (mkF m 4 #[.val (.ref a), .val (.int p1)] [(.ref a), (.int (p1 + (1 : Int32)))])) rfl rfl (hb hby d21_4)
  refine own_go (fun tgt cont => st1 tgt cont) ?_
  show own_Go p e below s (Q_rm21 Z a p1 u_t ts h0 n0) 0 0 (T1.setTop (mkF m 7 #[.val (.ref a), .val (.int p1)] [(.ref u_t), (.int (p1 + (1 : Int32)))]))
  refine own_go (B := T1.setTop (mkF m 8 #[.val (.ref a), .val (.int p1)] [(.int (Int32.ofNat ts.length)), (.int (p1 + (1 : Int32)))])) (fun tgt cont => ?_) ?_
  · refine own_lenLA X1 hx hZ e1 A_u_t (g := (mkF m 7 #[.val (.ref a), .val (.int p1)] [(.ref u_t), (.int (p1 + (1 : Int32)))])) rfl rfl (hb hby d21_7) ?_
    exact cont
  by_cases hc2 : (p1 + (1 : Int32)) = (Int32.ofNat ts.length)
  ·
    refine own_go (B := T1.setTop (mkF m 18 #[.val (.ref a), .val (.int p1)] [(.int (0 : Int32))])) (fun tgt cont => ?_) ?_
    · refine XS.icmpNo X1.here hx rfl (hb hby d21_8) rfl (XT.ii_ne_f hc2) ?_
      refine XT.iconstV X1.here hx rfl (0 : Int32) (hb hby d21_11) rfl ?_
      refine XS.goto X1.here hx rfl (pc0 := 12) (pc' := 18) rfl (hb hby d21_12) (by decide) (by decide) ?_
      exact cont
    refine own_end X1 (v := some (.int (0 : Int32))) (fun h => by rw [Bd.returns] at h; cases h) hlk ?_ (by decide) (by decide) (fun fs hl => retI X1 hx Bd.returns (hb hby d21_18) hl)
    exact ⟨(by unfold own_aft_r; first | (simp only [if_pos hc2]; done) | (simp only [if_pos hc2]; exact rfl) | exact rfl), N0, e1⟩
  ·
    refine own_go (B := T1.setTop (mkF m 18 #[.val (.ref a), .val (.int p1)] [(.int (p1 + (1 : Int32)))])) (fun tgt cont => ?_) ?_
    · refine XS.icmpYes X1.here hx rfl (pc0 := 8) (pc' := 15) rfl (hb hby d21_8) rfl (XT.ii_ne_t hc2) (by decide) (by decide) ?_
      refine XS.iloadN X1.here hx rfl (hb hby d21_15) rfl ?_
      refine XT.iconstV X1.here hx rfl (1 : Int32) (hb hby d21_16) rfl ?_
      refine XS.iadd X1.here hx rfl (hb hby d21_17) rfl ?_
      exact cont
    refine own_end X1 (v := some (.int (p1 + (1 : Int32)))) (fun h => by rw [Bd.returns] at h; cases h) hlk ?_ (by decide) (by decide) (fun fs hl => retI X1 hx Bd.returns (hb hby d21_18) hl)
    exact ⟨(by unfold own_aft_r; first | (simp only [if_neg hc2]; done) | (simp only [if_neg hc2]; exact rfl) | exact rfl), N0, e1⟩
theorem own_aftB {s : Int32} {ts : List Int64} (h : ¬ s < 0 ∧ s.toNatClampNeg < ts.length) (hs : ts.length < 2147483648) : ¬ own_aft_r s ts < 0 ∧ (own_aft_r s ts).toNatClampNeg < ts.length := by
  obtain ⟨h1, h2⟩ := h
  have e0 : (0 : Int32).toInt = 0 := rfl
  have e1 : (1 : Int32).toInt = 1 := rfl
  have a := c_iadd s 1
  rw [e1] at a
  have r := rng32 (s + 1)
  rw [Int32.toNatClampNeg] at h2 ⊢
  unfold own_aft_r
  rw [Int32.lt_iff_toInt_lt, e0] at h1 ⊢
  split
  · rw [e0]; exact ⟨by omega, by omega⟩
  · rename_i hne
    rw [← Int32.toInt_inj, own_toI hs] at hne
    generalize s + 1 = z at *
    exact ⟨by omega, by omega⟩
theorem own_setB {s : Int32} {ts : List Int64} {i : Nat} {v : Int64} (h : ¬ s < 0 ∧ s.toNatClampNeg < ts.length) : ¬ s < 0 ∧ s.toNatClampNeg < (ts.set i v).length := by rw [List.length_set]; exact h
theorem own_setS {ts : List Int64} {i : Nat} {v : Int64} (h : ts.length < 2147483648) : (ts.set i v).length < 2147483648 := by rw [List.length_set]; exact h
theorem own_lvC {g : Int64} {n : Nat} (hs : n < 2147483648) (h1 : ¬ g < (0 : Int64)) (h2 : g < (Int32.ofNat n).toInt64) : g.toInt32.toInt = g.toInt ∧ 0 ≤ g.toInt ∧ g.toInt < n := by
  have e0 : (0 : Int64).toInt = 0 := rfl
  rw [Int64.lt_iff_toInt_lt, e0] at h1
  rw [Int64.lt_iff_toInt_lt, c_i2l, own_toI hs] at h2
  have c := c_l2i g
  have r := rng32 g.toInt32
  generalize g.toInt32 = z at *
  omega
theorem own_lv1 {s : Int32} {g : Int64} {ts : List Int64} (h : ¬ s < 0 ∧ s.toNatClampNeg < ts.length) (h1 : ¬ g < (0 : Int64)) (h2 : g < (Int32.ofNat ts.length).toInt64) (h3 : ¬ (s - g.toInt32) < 0) (hs : ts.length < 2147483648) : ¬ (s - g.toInt32) < 0 ∧ (s - g.toInt32).toNatClampNeg < ts.length := by
  obtain ⟨k1, k2, k3⟩ := own_lvC hs h1 h2
  obtain ⟨h4, h5⟩ := h
  refine ⟨h3, ?_⟩
  have a := c_isub s g.toInt32
  have r := rng32 (s - g.toInt32)
  have e0 : (0 : Int32).toInt = 0 := rfl
  rw [Int32.lt_iff_toInt_lt, e0] at h4 h3
  rw [Int32.toNatClampNeg] at h5 ⊢
  generalize s - g.toInt32 = z at *
  generalize g.toInt32 = y at *
  omega
theorem own_lv2 {s : Int32} {g : Int64} {ts : List Int64} (h : ¬ s < 0 ∧ s.toNatClampNeg < ts.length) (h1 : ¬ g < (0 : Int64)) (h2 : g < (Int32.ofNat ts.length).toInt64) (h3 : (s - g.toInt32) < 0) (hs : ts.length < 2147483648) : ¬ ((s - g.toInt32) + Int32.ofNat ts.length) < 0 ∧ ((s - g.toInt32) + Int32.ofNat ts.length).toNatClampNeg < ts.length := by
  obtain ⟨k1, k2, k3⟩ := own_lvC hs h1 h2
  obtain ⟨h4, h5⟩ := h
  have a := c_isub s g.toInt32
  have r := rng32 (s - g.toInt32)
  have b := c_iadd (s - g.toInt32) (Int32.ofNat ts.length)
  have q := rng32 ((s - g.toInt32) + Int32.ofNat ts.length)
  have e0 : (0 : Int32).toInt = 0 := rfl
  rw [own_toI hs] at b
  rw [Int32.lt_iff_toInt_lt, e0] at h4 h3 ⊢
  rw [Int32.toNatClampNeg] at h5 ⊢
  generalize (s - g.toInt32) + Int32.ofNat ts.length = w at *
  generalize s - g.toInt32 = z at *
  generalize g.toInt32 = y at *
  omega

def own_add_load (p1 : Int64) (u_l : Int64) : Int64 := (u_l + p1)
def own_add_ts (p1 : Int64) (u_s : Int32) (ts : List Int64) : List Int64 := (ts.set u_s.toNatClampNeg ((ts.getD u_s.toNatClampNeg 0) + p1))
def Q_rm11 (Z : State) (a : Addr) (p1 : Int64) (u_b : Int64) (u_w : Int64) (u_t : Addr) (u_n : Int64) (u_m : Int64) (u_s : Int32) (u_l : Int64) (ts : List Int64) (h0 : Heap) (n0 : Nat) (v : Option Value) (h : Heap) (L : List Loc) : Prop := v = none ∧ Fr n0 L ∧ Keep h0 h [a, u_t] ∧ Exa Z h a "com/example/eschborn/eschborn/engine/BucketWindow" ∧ Fld Z h a "com/example/eschborn/eschborn/engine/BucketWindow" "bucket" "J" (.long u_b) ∧ Fld Z h a "com/example/eschborn/eschborn/engine/BucketWindow" "window" "J" (.long u_w) ∧ Fld Z h a "com/example/eschborn/eschborn/engine/BucketWindow" "totals" "[J" (.ref u_t) ∧ Fld Z h a "com/example/eschborn/eschborn/engine/BucketWindow" "newest" "J" (.long u_n) ∧ Fld Z h a "com/example/eschborn/eschborn/engine/BucketWindow" "newestNumber" "J" (.long u_m) ∧ Fld Z h a "com/example/eschborn/eschborn/engine/BucketWindow" "newestSlot" "I" (.int u_s) ∧ Fld Z h a "com/example/eschborn/eschborn/engine/BucketWindow" "load" "J" (.long (own_add_load p1 u_l)) ∧ own_LA Z h u_t (own_add_ts p1 u_s ts)
theorem d11_0 : decode prog_1_method_4_code 0 = .ok (.aload_n 0, 1) := by decide +kernel
theorem d11_1 : decode prog_1_method_4_code 1 = .ok (.getfield 27, 3) := by decide +kernel
theorem d11_4 : decode prog_1_method_4_code 4 = .ok (.aload_n 0, 1) := by decide +kernel
theorem d11_5 : decode prog_1_method_4_code 5 = .ok (.getfield 60, 3) := by decide +kernel
theorem d11_8 : decode prog_1_method_4_code 8 = .ok (.dup2, 1) := by decide +kernel
theorem d11_9 : decode prog_1_method_4_code 9 = .ok (.laload, 1) := by decide +kernel
theorem d11_10 : decode prog_1_method_4_code 10 = .ok (.lload_n 1, 1) := by decide +kernel
theorem d11_11 : decode prog_1_method_4_code 11 = .ok (.ladd, 1) := by decide +kernel
theorem d11_12 : decode prog_1_method_4_code 12 = .ok (.lastore, 1) := by decide +kernel
theorem d11_13 : decode prog_1_method_4_code 13 = .ok (.aload_n 0, 1) := by decide +kernel
theorem d11_14 : decode prog_1_method_4_code 14 = .ok (.dup, 1) := by decide +kernel
theorem d11_15 : decode prog_1_method_4_code 15 = .ok (.getfield 48, 3) := by decide +kernel
theorem d11_18 : decode prog_1_method_4_code 18 = .ok (.lload_n 1, 1) := by decide +kernel
theorem d11_19 : decode prog_1_method_4_code 19 = .ok (.ladd, 1) := by decide +kernel
theorem d11_20 : decode prog_1_method_4_code 20 = .ok (.putfield 48, 3) := by decide +kernel
theorem d11_23 : decode prog_1_method_4_code 23 = .ok (.return_, 1) := by decide +kernel
set_option maxRecDepth 65536 in
set_option maxHeartbeats 40000000 in
theorem rm11 (l : Launch) (Z : State) (a0 : Array Value) (hw : ∀ d ∈ tables_1, d.before a0 Z = true) (ws : List Jvm.Cond) (a : Addr) (p1 : Int64) (u_b : Int64) (u_w : Int64) (u_t : Addr) (u_n : Int64) (u_m : Int64) (u_s : Int32) (u_l : Int64) (ts : List Int64) (h0 : Heap) (n0 : Nat) (Z0 : n0 ≤ h0.size) (E_a : Exa Z h0 a "com/example/eschborn/eschborn/engine/BucketWindow") (F_a_bucket : Fld Z h0 a "com/example/eschborn/eschborn/engine/BucketWindow" "bucket" "J" (.long u_b)) (F_a_window : Fld Z h0 a "com/example/eschborn/eschborn/engine/BucketWindow" "window" "J" (.long u_w)) (F_a_totals : Fld Z h0 a "com/example/eschborn/eschborn/engine/BucketWindow" "totals" "[J" (.ref u_t)) (F_a_newest : Fld Z h0 a "com/example/eschborn/eschborn/engine/BucketWindow" "newest" "J" (.long u_n)) (F_a_newestNumber : Fld Z h0 a "com/example/eschborn/eschborn/engine/BucketWindow" "newestNumber" "J" (.long u_m)) (F_a_newestSlot : Fld Z h0 a "com/example/eschborn/eschborn/engine/BucketWindow" "newestSlot" "I" (.int u_s)) (F_a_load : Fld Z h0 a "com/example/eschborn/eschborn/engine/BucketWindow" "load" "J" (.long u_l)) (g_a : n0 ≤ a) (A_u_t : own_LA Z h0 u_t ts) (g_u_t : n0 ≤ u_t) (hs : ¬ u_s < 0 ∧ u_s.toNatClampNeg < ts.length) :
    MetFree l (⟨"com/example/eschborn/eschborn/engine/BucketWindow", "add", "(J)V"⟩ : MethodName) (head1 (Jvm.Cond.code (⟨"com/example/eschborn/eschborn/engine/BucketWindow", "add", "(J)V"⟩ : MethodName) prog_1_method_4_code 3 none :: ws) ({ frames := 0, cells := 0, slots := 0, locals := 0 } : Room)) (fun aa U => aa = #[(.ref a), (.long p1)] ∧ Z.Warmed39 U.vm ∧ U.heap = h0) (fun _ _ _ _ _ => True) (fun _ U o U' => ∃ v L, o = .returned v ∧ Q_rm11 Z a p1 u_b u_w u_t u_n u_m u_s u_l ts h0 n0 v U'.heap L ∧ FrameEnd U o U' L ({ frames := 0, cells := 0, slots := 0, locals := 0 } : Room).cells ({ frames := 0, cells := 0, slots := 0, locals := 0 } : Room).slots) := by
  refine MetFree.of_bodySF (plainFor_of_name own_pn3) hisR ?_
  intro p e s m args below meth c s₁ Bd hml0 hP hK
  obtain ⟨rfl, hZ, hh⟩ := hP
  have hx := Bd.exec
  have hby := Bd.bytes
  have hml : c.maxLocals = 3 := hml0
  have hlk : meth.locks = false := BodyLoose.notSynchronized Bd
  have hown : s.vm.findClass "com/example/eschborn/eschborn/engine/BucketWindow" = some m.cls := findClass_of_methodNamed Bd.named
  have hnm := (name_of_methodNamed Bd.named Bd.method).1
  have X0 : Stand p l e ({ frames := 0, cells := 0, slots := 0, locals := 0 } : Room) s m #[(.ref a), (.long p1)] below meth c s₁ [] 0 0 := Stand.of_body Bd
  have e0 : s₁.heap = h0 := by rw [← hh, Bd.state]; rfl
  have N0 := Fr.nil n0
  show own_Go p e below s (Q_rm11 Z a p1 u_b u_w u_t u_n u_m u_s u_l ts h0 n0) 0 0 (s₁.setTop (entryFrame m #[(.ref a), (.long p1)] 3))
  refine own_go (B := s₁.setTop (mkF m 0 #[.val (.ref a), .val (.long p1), .second] [])) (fun tgt cont => (XT.entry rfl).trans cont) ?_
  have ne_a_u_t := own_neA E_a (hw _ (List.mem_of_getElem? (i := 3) rfl)) A_u_t.arr
  refine own_go (B := s₁.setTop (mkF m 1 #[.val (.ref a), .val (.long p1), .second] [(.ref a)])) (fun tgt cont => ?_) ?_
  · refine XS.aloadN X0.here hx rfl (hb hby d11_0) rfl rfl ?_
    exact cont
  obtain ⟨T1, X1, e1, st1⟩ := getF X0 hx hZ hown (host := "") (Or.inl (hw _ (List.mem_of_getElem? (i := 58) rfl))) Via.refl e0 F_a_totals (g := (mkF m 1 #[.val (.ref a), .val (.long p1), .second] [(.ref a)])) rfl rfl (hb hby d11_1)
  refine own_go (fun tgt cont => st1 tgt cont) ?_
  show own_Go p e below s (Q_rm11 Z a p1 u_b u_w u_t u_n u_m u_s u_l ts h0 n0) 0 0 (T1.setTop (mkF m 4 #[.val (.ref a), .val (.long p1), .second] [(.ref u_t)]))
  refine own_go (B := T1.setTop (mkF m 5 #[.val (.ref a), .val (.long p1), .second] [(.ref a), (.ref u_t)])) (fun tgt cont => ?_) ?_
  · refine XS.aloadN X1.here hx rfl (hb hby d11_4) rfl rfl ?_
    exact cont
  obtain ⟨T2, X2, e2, st2⟩ := getF X1 hx hZ hown (host := "") (Or.inl (hw _ (List.mem_of_getElem? (i := 80) rfl))) Via.refl e1 F_a_newestSlot (g := (mkF m 5 #[.val (.ref a), .val (.long p1), .second] [(.ref a), (.ref u_t)])) rfl rfl (hb hby d11_5)
  refine own_go (fun tgt cont => st2 tgt cont) ?_
  show own_Go p e below s (Q_rm11 Z a p1 u_b u_w u_t u_n u_m u_s u_l ts h0 n0) 0 0 (T2.setTop (mkF m 8 #[.val (.ref a), .val (.long p1), .second] [(.int u_s), (.ref u_t)]))
  refine own_go (B := T2.setTop (mkF m 12 #[.val (.ref a), .val (.long p1), .second] [(.long ((ts.getD u_s.toNatClampNeg 0) + p1)), (.int u_s), (.ref u_t)])) (fun tgt cont => ?_) ?_
  · refine XT.dup2 X2.here hx rfl (hb hby d11_8) rfl rfl rfl ?_
    refine own_ldLA X2 hx hZ e2 A_u_t (j := u_s) hs (g := (mkF m 9 #[.val (.ref a), .val (.long p1), .second] [(.int u_s), (.ref u_t), (.int u_s), (.ref u_t)])) rfl rfl (hb hby d11_9) ?_
    refine XS.lloadN X2.here hx rfl (hb hby d11_10) rfl ?_
    refine XS.ladd X2.here hx rfl (hb hby d11_11) rfl ?_
    exact cont
  obtain ⟨T3, h3, X3, e3, W3, A3, st3⟩ := own_stLA X2 hx hZ e2 A_u_t (j := u_s) (x := ((ts.getD u_s.toNatClampNeg 0) + p1)) hs (g := (mkF m 12 #[.val (.ref a), .val (.long p1), .second] [(.long ((ts.getD u_s.toNatClampNeg 0) + p1)), (.int u_s), (.ref u_t)])) rfl rfl (hb hby d11_12)
  have N3 := Fr.snoc X3 N0 g_u_t
  have kk3 : Keep h0 h3 [a, u_t] := (Keep.refl h0 [a, u_t]).wr W3 (Or.inl (List.mem_of_getElem? (i := 1) rfl))
  have zp3 : n0 ≤ h3.size := Nat.le_trans Z0 kk3.1
  refine own_go (fun tgt cont => st3 tgt cont) ?_
  show own_Go p e below s (Q_rm11 Z a p1 u_b u_w u_t u_n u_m u_s u_l ts h0 n0) 0 0 (T3.setTop (mkF m 13 #[.val (.ref a), .val (.long p1), .second] []))
  refine own_go (B := T3.setTop (mkF m 15 #[.val (.ref a), .val (.long p1), .second] [(.ref a), (.ref a)])) (fun tgt cont => ?_) ?_
  · refine XS.aloadN X3.here hx rfl (hb hby d11_13) rfl rfl ?_
    refine XS.dup X3.here hx rfl (hb hby d11_14) rfl rfl ?_
    exact cont
  have f5 := (F_a_load.other W3 (Or.inl ne_a_u_t))
  obtain ⟨T4, X4, e4, st4⟩ := getF X3 hx hZ hown (host := "") (Or.inl (hw _ (List.mem_of_getElem? (i := 82) rfl))) Via.refl e3 f5 (g := (mkF m 15 #[.val (.ref a), .val (.long p1), .second] [(.ref a), (.ref a)])) rfl rfl (hb hby d11_15)
  refine own_go (fun tgt cont => st4 tgt cont) ?_
  show own_Go p e below s (Q_rm11 Z a p1 u_b u_w u_t u_n u_m u_s u_l ts h0 n0) 0 0 (T4.setTop (mkF m 18 #[.val (.ref a), .val (.long p1), .second] [(.long u_l), (.ref a)]))
  refine own_go (B := T4.setTop (mkF m 20 #[.val (.ref a), .val (.long p1), .second] [(.long (u_l + p1)), (.ref a)])) (fun tgt cont => ?_) ?_
  · refine XS.lloadN X4.here hx rfl (hb hby d11_18) rfl ?_
    refine XS.ladd X4.here hx rfl (hb hby d11_19) rfl ?_
    exact cont
  have f7 := (E_a.wr W3)
  obtain ⟨T6, h6, X6, e6, W6, st6⟩ := putF X4 hx hZ hown (host := "") (Or.inl (hw _ (List.mem_of_getElem? (i := 82) rfl))) Via.refl e4 f5 f7 (Or.inl (hw _ (List.mem_of_getElem? (i := 83) rfl))) (hw _ (List.mem_of_getElem? (i := 3) rfl)) (ty := .long) (by decide) rfl rfl (g := (mkF m 20 #[.val (.ref a), .val (.long p1), .second] [(.long (u_l + p1)), (.ref a)])) rfl rfl (hb hby d11_20)
  have fw6 := f5.same W6
  have N6 := Fr.snoc X6 N3 g_a
  have kk6 : Keep h0 h6 [a, u_t] := kk3.wr W6 (Or.inl (List.mem_of_getElem? (i := 0) rfl))
  have zp6 : n0 ≤ h6.size := Nat.le_trans Z0 kk6.1
  refine own_go (fun tgt cont => st6 tgt cont) ?_
  show own_Go p e below s (Q_rm11 Z a p1 u_b u_w u_t u_n u_m u_s u_l ts h0 n0) 0 0 (T6.setTop (mkF m 23 #[.val (.ref a), .val (.long p1), .second] []))
  refine own_end X6 (v := none) (fun _ => rfl) hlk ?_ (by decide) (by decide) (fun fs hl => X6.returnOut hx Bd.returns (hb hby d11_23) hl)
  have f8 := (f7.wr W6)
  have f9 := ((F_a_bucket.other W3 (Or.inl ne_a_u_t)).other W6 (Or.inr (slot_ne (t := .long) (t' := .long) (Or.inr (hw _ (List.mem_of_getElem? (i := 44) rfl))) (Or.inl (hw _ (List.mem_of_getElem? (i := 83) rfl))) (by decide) (by decide) (by decide))))
  have f10 := ((F_a_window.other W3 (Or.inl ne_a_u_t)).other W6 (Or.inr (slot_ne (t := .long) (t' := .long) (Or.inr (hw _ (List.mem_of_getElem? (i := 51) rfl))) (Or.inl (hw _ (List.mem_of_getElem? (i := 83) rfl))) (by decide) (by decide) (by decide))))
  have f11 := ((F_a_totals.other W3 (Or.inl ne_a_u_t)).other W6 (Or.inr (slot_ne (t := (.array .long)) (t' := .long) (Or.inr (hw _ (List.mem_of_getElem? (i := 59) rfl))) (Or.inl (hw _ (List.mem_of_getElem? (i := 83) rfl))) (by decide) (by decide) (by decide))))
  have f12 := ((F_a_newest.other W3 (Or.inl ne_a_u_t)).other W6 (Or.inr (slot_ne (t := .long) (t' := .long) (Or.inl (hw _ (List.mem_of_getElem? (i := 66) rfl))) (Or.inl (hw _ (List.mem_of_getElem? (i := 83) rfl))) (by decide) (by decide) (by decide))))
  have f13 := ((F_a_newestNumber.other W3 (Or.inl ne_a_u_t)).other W6 (Or.inr (slot_ne (t := .long) (t' := .long) (Or.inl (hw _ (List.mem_of_getElem? (i := 113) rfl))) (Or.inl (hw _ (List.mem_of_getElem? (i := 83) rfl))) (by decide) (by decide) (by decide))))
  have f14 := ((F_a_newestSlot.other W3 (Or.inl ne_a_u_t)).other W6 (Or.inr (slot_ne (t := .int) (t' := .long) (Or.inl (hw _ (List.mem_of_getElem? (i := 81) rfl))) (Or.inl (hw _ (List.mem_of_getElem? (i := 83) rfl))) (by decide) (by decide) (by decide))))
  have f15 := (A3.other W6 (Ne.symm ne_a_u_t))
  rw [e6]
  exact ⟨rfl, N6, kk6, f8, f9, f10, f11, f12, f13, f14, (by unfold own_add_load; exact fw6), (by unfold own_add_ts; exact f15)⟩
def own_lea_r (p1 : Int64) (u_m : Int64) (u_s : Int32) (ts : List Int64) : Int64 := if ((u_m - p1) + ((Int32.ofNat ts.length).toInt64)) < (0 : Int64) then (0 : Int64) else if ((u_m - p1) + ((Int32.ofNat ts.length).toInt64)) < ((Int32.ofNat ts.length).toInt64) then if (u_s - (((u_m - p1) + ((Int32.ofNat ts.length).toInt64)).toInt32)) < 0 then (ts.getD ((u_s - (((u_m - p1) + ((Int32.ofNat ts.length).toInt64)).toInt32)) + (Int32.ofNat ts.length)).toNatClampNeg 0) else (ts.getD (u_s - (((u_m - p1) + ((Int32.ofNat ts.length).toInt64)).toInt32)).toNatClampNeg 0) else (0 : Int64)
def Q_rm20 (Z : State) (a : Addr) (p1 : Int64) (u_t : Addr) (u_m : Int64) (u_s : Int32) (ts : List Int64) (h0 : Heap) (n0 : Nat) (v : Option Value) (h : Heap) (L : List Loc) : Prop := v = some (.long (own_lea_r p1 u_m u_s ts)) ∧ Fr n0 L ∧ h = h0
theorem d20_0 : decode prog_1_method_9_code 0 = .ok (.aload_n 0, 1) := by decide +kernel
theorem d20_1 : decode prog_1_method_9_code 1 = .ok (.getfield 68, 3) := by decide +kernel
theorem d20_4 : decode prog_1_method_9_code 4 = .ok (.lload_n 1, 1) := by decide +kernel
theorem d20_5 : decode prog_1_method_9_code 5 = .ok (.lsub, 1) := by decide +kernel
theorem d20_6 : decode prog_1_method_9_code 6 = .ok (.aload_n 0, 1) := by decide +kernel
theorem d20_7 : decode prog_1_method_9_code 7 = .ok (.getfield 27, 3) := by decide +kernel
theorem d20_10 : decode prog_1_method_9_code 10 = .ok (.arraylength, 1) := by decide +kernel
theorem d20_11 : decode prog_1_method_9_code 11 = .ok (.i2l, 1) := by decide +kernel
theorem d20_12 : decode prog_1_method_9_code 12 = .ok (.ladd, 1) := by decide +kernel
theorem d20_13 : decode prog_1_method_9_code 13 = .ok (.lstore_n 3, 1) := by decide +kernel
theorem d20_14 : decode prog_1_method_9_code 14 = .ok (.lconst 0, 1) := by decide +kernel
theorem d20_15 : decode prog_1_method_9_code 15 = .ok (.lstore 5, 2) := by decide +kernel
theorem d20_17 : decode prog_1_method_9_code 17 = .ok (.lload_n 3, 1) := by decide +kernel
theorem d20_18 : decode prog_1_method_9_code 18 = .ok (.lconst 0, 1) := by decide +kernel
theorem d20_19 : decode prog_1_method_9_code 19 = .ok (.lcmp, 1) := by decide +kernel
theorem d20_20 : decode prog_1_method_9_code 20 = .ok (.ifCond .lt 48, 3) := by decide +kernel
theorem d20_23 : decode prog_1_method_9_code 23 = .ok (.lload_n 3, 1) := by decide +kernel
theorem d20_24 : decode prog_1_method_9_code 24 = .ok (.aload_n 0, 1) := by decide +kernel
theorem d20_25 : decode prog_1_method_9_code 25 = .ok (.getfield 27, 3) := by decide +kernel
theorem d20_28 : decode prog_1_method_9_code 28 = .ok (.arraylength, 1) := by decide +kernel
theorem d20_29 : decode prog_1_method_9_code 29 = .ok (.i2l, 1) := by decide +kernel
theorem d20_30 : decode prog_1_method_9_code 30 = .ok (.lcmp, 1) := by decide +kernel
theorem d20_31 : decode prog_1_method_9_code 31 = .ok (.ifCond .ge 37, 3) := by decide +kernel
theorem d20_34 : decode prog_1_method_9_code 34 = .ok (.aload_n 0, 1) := by decide +kernel
theorem d20_35 : decode prog_1_method_9_code 35 = .ok (.getfield 60, 3) := by decide +kernel
theorem d20_38 : decode prog_1_method_9_code 38 = .ok (.lload_n 3, 1) := by decide +kernel
theorem d20_39 : decode prog_1_method_9_code 39 = .ok (.l2i, 1) := by decide +kernel
theorem d20_40 : decode prog_1_method_9_code 40 = .ok (.isub, 1) := by decide +kernel
theorem d20_41 : decode prog_1_method_9_code 41 = .ok (.istore 7, 2) := by decide +kernel
theorem d20_43 : decode prog_1_method_9_code 43 = .ok (.aload_n 0, 1) := by decide +kernel
theorem d20_44 : decode prog_1_method_9_code 44 = .ok (.getfield 27, 3) := by decide +kernel
theorem d20_47 : decode prog_1_method_9_code 47 = .ok (.iload 7, 2) := by decide +kernel
theorem d20_49 : decode prog_1_method_9_code 49 = .ok (.ifCond .ge 14, 3) := by decide +kernel
theorem d20_52 : decode prog_1_method_9_code 52 = .ok (.iload 7, 2) := by decide +kernel
theorem d20_54 : decode prog_1_method_9_code 54 = .ok (.aload_n 0, 1) := by decide +kernel
theorem d20_55 : decode prog_1_method_9_code 55 = .ok (.getfield 27, 3) := by decide +kernel
theorem d20_58 : decode prog_1_method_9_code 58 = .ok (.arraylength, 1) := by decide +kernel
theorem d20_59 : decode prog_1_method_9_code 59 = .ok (.iadd, 1) := by decide +kernel
theorem d20_60 : decode prog_1_method_9_code 60 = .ok (.goto 5, 3) := by decide +kernel
theorem d20_63 : decode prog_1_method_9_code 63 = .ok (.iload 7, 2) := by decide +kernel
theorem d20_65 : decode prog_1_method_9_code 65 = .ok (.laload, 1) := by decide +kernel
theorem d20_66 : decode prog_1_method_9_code 66 = .ok (.lstore 5, 2) := by decide +kernel
theorem d20_68 : decode prog_1_method_9_code 68 = .ok (.lload 5, 2) := by decide +kernel
theorem d20_70 : decode prog_1_method_9_code 70 = .ok (.lreturn, 1) := by decide +kernel
set_option maxRecDepth 65536 in
set_option maxHeartbeats 40000000 in
theorem rm20 (l : Launch) (Z : State) (a0 : Array Value) (hw : ∀ d ∈ tables_1, d.before a0 Z = true) (ws : List Jvm.Cond) (a : Addr) (p1 : Int64) (u_t : Addr) (u_m : Int64) (u_s : Int32) (ts : List Int64) (h0 : Heap) (n0 : Nat) (Z0 : n0 ≤ h0.size) (E_a : Exa Z h0 a "com/example/eschborn/eschborn/engine/BucketWindow") (F_a_totals : Fld Z h0 a "com/example/eschborn/eschborn/engine/BucketWindow" "totals" "[J" (.ref u_t)) (F_a_newestNumber : Fld Z h0 a "com/example/eschborn/eschborn/engine/BucketWindow" "newestNumber" "J" (.long u_m)) (F_a_newestSlot : Fld Z h0 a "com/example/eschborn/eschborn/engine/BucketWindow" "newestSlot" "I" (.int u_s)) (A_u_t : own_LA Z h0 u_t ts) (hs : ¬ u_s < 0 ∧ u_s.toNatClampNeg < ts.length) :
    MetFree l (⟨"com/example/eschborn/eschborn/engine/BucketWindow", "leavingAt", "(J)J"⟩ : MethodName) (head1 (Jvm.Cond.code (⟨"com/example/eschborn/eschborn/engine/BucketWindow", "leavingAt", "(J)J"⟩ : MethodName) prog_1_method_9_code 8 (some .long) :: ws) ({ frames := 0, cells := 0, slots := 0, locals := 0 } : Room)) (fun aa U => aa = #[(.ref a), (.long p1)] ∧ Z.Warmed39 U.vm ∧ U.heap = h0) (fun _ _ _ _ _ => True) (fun _ U o U' => ∃ v L, o = .returned v ∧ Q_rm20 Z a p1 u_t u_m u_s ts h0 n0 v U'.heap L ∧ FrameEnd U o U' L ({ frames := 0, cells := 0, slots := 0, locals := 0 } : Room).cells ({ frames := 0, cells := 0, slots := 0, locals := 0 } : Room).slots) := by
  refine MetFree.of_bodySF (plainFor_of_name own_pn3) hisR ?_
  intro p e s m args below meth c s₁ Bd hml0 hP hK
  obtain ⟨rfl, hZ, hh⟩ := hP
  have hx := Bd.exec
  have hby := Bd.bytes
  have hml : c.maxLocals = 8 := hml0
  have hlk : meth.locks = false := BodyLoose.notSynchronized Bd
  have hown : s.vm.findClass "com/example/eschborn/eschborn/engine/BucketWindow" = some m.cls := findClass_of_methodNamed Bd.named
  have hnm := (name_of_methodNamed Bd.named Bd.method).1
  have X0 : Stand p l e ({ frames := 0, cells := 0, slots := 0, locals := 0 } : Room) s m #[(.ref a), (.long p1)] below meth c s₁ [] 0 0 := Stand.of_body Bd
  have e0 : s₁.heap = h0 := by rw [← hh, Bd.state]; rfl
  have N0 := Fr.nil n0
  show own_Go p e below s (Q_rm20 Z a p1 u_t u_m u_s ts h0 n0) 0 0 (s₁.setTop (entryFrame m #[(.ref a), (.long p1)] 8))
  refine own_go (B := s₁.setTop (mkF m 0 #[.val (.ref a), .val (.long p1), .second, .unset, .unset, .unset, .unset, .unset] [])) (fun tgt cont => (XT.entry rfl).trans cont) ?_
  have ne_a_u_t := own_neA E_a (hw _ (List.mem_of_getElem? (i := 3) rfl)) A_u_t.arr
  refine own_go (B := s₁.setTop (mkF m 1 #[.val (.ref a), .val (.long p1), .second, .unset, .unset, .unset, .unset, .unset] [(.ref a)])) (fun tgt cont => ?_) ?_
  · refine XS.aloadN X0.here hx rfl (hb hby d20_0) rfl rfl ?_
    exact cont
  obtain ⟨T1, X1, e1, st1⟩ := getF X0 hx hZ hown (host := "") (Or.inl (hw _ (List.mem_of_getElem? (i := 112) rfl))) Via.refl e0 F_a_newestNumber (g := (mkF m 1 #[.val (.ref a), .val (.long p1), .second, .unset, .unset, .unset, .unset, .unset] [(.ref a)])) rfl rfl (hb hby d20_1)
  refine own_go (fun tgt cont => st1 tgt cont) ?_
  show own_Go p e below s (Q_rm20 Z a p1 u_t u_m u_s ts h0 n0) 0 0 (T1.setTop (mkF m 4 #[.val (.ref a), .val (.long p1), .second, .unset, .unset, .unset, .unset, .unset] [(.long u_m)]))
  refine own_go (B := T1.setTop (mkF m 7 #[.val (.ref a), .val (.long p1), .second, .unset, .unset, .unset, .unset, .unset] [(.ref a), (.long (u_m - p1))])) (fun tgt cont => ?_) ?_
  · refine XS.lloadN X1.here hx rfl (hb hby d20_4) rfl ?_
    refine XS.lsub X1.here hx rfl (hb hby d20_5) rfl ?_
    refine XS.aloadN X1.here hx rfl (hb hby d20_6) rfl rfl ?_
    exact cont
  obtain ⟨T2, X2, e2, st2⟩ := getF X1 hx hZ hown (host := "") (Or.inl (hw _ (List.mem_of_getElem? (i := 58) rfl))) Via.refl e1 F_a_totals (g := (mkF m 7 #[.val (.ref a), .val (.long p1), .second, .unset, .unset, .unset, .unset, .unset] [(.ref a), (.long (u_m - p1))])) rfl rfl (hb hby d20_7)
  refine own_go (fun tgt cont => st2 tgt cont) ?_
  show own_Go p e below s (Q_rm20 Z a p1 u_t u_m u_s ts h0 n0) 0 0 (T2.setTop (mkF m 10 #[.val (.ref a), .val (.long p1), .second, .unset, .unset, .unset, .unset, .unset] [(.ref u_t), (.long (u_m - p1))]))
  refine own_go (B := T2.setTop (mkF m 20 #[.val (.ref a), .val (.long p1), .second, .val (.long ((u_m - p1) + ((Int32.ofNat ts.length).toInt64))), .second, .val (.long (0 : Int64)), .second, .unset] [(.int (XT.cmpL ((u_m - p1) + ((Int32.ofNat ts.length).toInt64)) (0 : Int64)))])) (fun tgt cont => ?_) ?_
  · refine own_lenLA X2 hx hZ e2 A_u_t (g := (mkF m 10 #[.val (.ref a), .val (.long p1), .second, .unset, .unset, .unset, .unset, .unset] [(.ref u_t), (.long (u_m - p1))])) rfl rfl (hb hby d20_10) ?_
    refine XS.i2l X2.here hx rfl (hb hby d20_11) rfl ?_
    refine XS.ladd X2.here hx rfl (hb hby d20_12) rfl ?_
    refine XS.lstoreN X2.here hx rfl (hb hby d20_13) rfl (l' := #[.val (.ref a), .val (.long p1), .second, .val (.long ((u_m - p1) + ((Int32.ofNat ts.length).toInt64))), .second, .unset, .unset, .unset]) rfl ?_
    refine XT.lconstV X2.here hx rfl (0 : Int64) (hb hby d20_14) rfl ?_
    refine XS.lstore X2.here hx rfl (hb hby d20_15) rfl (l' := #[.val (.ref a), .val (.long p1), .second, .val (.long ((u_m - p1) + ((Int32.ofNat ts.length).toInt64))), .second, .val (.long (0 : Int64)), .second, .unset]) rfl ?_
    refine XS.lloadN X2.here hx rfl (hb hby d20_17) rfl ?_
    refine XT.lconstV X2.here hx rfl (0 : Int64) (hb hby d20_18) rfl ?_
    refine XT.lcmp X2.here hx rfl (hb hby d20_19) rfl ?_
    exact cont
  by_cases hc3 : ((u_m - p1) + ((Int32.ofNat ts.length).toInt64)) < (0 : Int64)
  ·
    refine own_go (B := T2.setTop (mkF m 70 #[.val (.ref a), .val (.long p1), .second, .val (.long ((u_m - p1) + ((Int32.ofNat ts.length).toInt64))), .second, .val (.long (0 : Int64)), .second, .unset] [(.long (0 : Int64))])) (fun tgt cont => ?_) ?_
    · refine XS.ifYes X2.here hx rfl (pc0 := 20) (pc' := 68) rfl (hb hby d20_20) rfl (XT.ll_lt_t hc3) (by decide) (by decide) ?_
      refine XS.lload X2.here hx rfl (hb hby d20_68) rfl ?_
      exact cont
    refine own_end X2 (v := some (.long (0 : Int64))) (fun h => by rw [Bd.returns] at h; cases h) hlk ?_ (by decide) (by decide) (fun fs hl => retOut X2 hx Bd.returns rfl (Or.inr (Or.inl ⟨rfl, rfl, _, rfl⟩)) (hb hby d20_70) hl)
    exact ⟨(by unfold own_lea_r; first | (simp only [if_pos hc3]; done) | (simp only [if_pos hc3]; exact rfl) | exact rfl), N0, e2⟩
  ·
    refine own_go (B := T2.setTop (mkF m 25 #[.val (.ref a), .val (.long p1), .second, .val (.long ((u_m - p1) + ((Int32.ofNat ts.length).toInt64))), .second, .val (.long (0 : Int64)), .second, .unset] [(.ref a), (.long ((u_m - p1) + ((Int32.ofNat ts.length).toInt64)))])) (fun tgt cont => ?_) ?_
    · refine XS.ifNo X2.here hx rfl (hb hby d20_20) rfl (XT.ll_lt_f hc3) ?_
      refine XS.lloadN X2.here hx rfl (hb hby d20_23) rfl ?_
      refine XS.aloadN X2.here hx rfl (hb hby d20_24) rfl rfl ?_
      exact cont
    obtain ⟨T4, X4, e4, st4⟩ := getF X2 hx hZ hown (host := "") (Or.inl (hw _ (List.mem_of_getElem? (i := 58) rfl))) Via.refl e2 F_a_totals (g := (mkF m 25 #[.val (.ref a), .val (.long p1), .second, .val (.long ((u_m - p1) + ((Int32.ofNat ts.length).toInt64))), .second, .val (.long (0 : Int64)), .second, .unset] [(.ref a), (.long ((u_m - p1) + ((Int32.ofNat ts.length).toInt64)))])) rfl rfl (hb hby d20_25)
    refine own_go (fun tgt cont => st4 tgt cont) ?_
    show own_Go p e below s (Q_rm20 Z a p1 u_t u_m u_s ts h0 n0) 0 0 (T4.setTop (mkF m 28 #[.val (.ref a), .val (.long p1), .second, .val (.long ((u_m - p1) + ((Int32.ofNat ts.length).toInt64))), .second, .val (.long (0 : Int64)), .second, .unset] [(.ref u_t), (.long ((u_m - p1) + ((Int32.ofNat ts.length).toInt64)))]))
    refine own_go (B := T4.setTop (mkF m 31 #[.val (.ref a), .val (.long p1), .second, .val (.long ((u_m - p1) + ((Int32.ofNat ts.length).toInt64))), .second, .val (.long (0 : Int64)), .second, .unset] [(.int (XT.cmpL ((u_m - p1) + ((Int32.ofNat ts.length).toInt64)) ((Int32.ofNat ts.length).toInt64)))])) (fun tgt cont => ?_) ?_
    · refine own_lenLA X4 hx hZ e4 A_u_t (g := (mkF m 28 #[.val (.ref a), .val (.long p1), .second, .val (.long ((u_m - p1) + ((Int32.ofNat ts.length).toInt64))), .second, .val (.long (0 : Int64)), .second, .unset] [(.ref u_t), (.long ((u_m - p1) + ((Int32.ofNat ts.length).toInt64)))])) rfl rfl (hb hby d20_28) ?_
      refine XS.i2l X4.here hx rfl (hb hby d20_29) rfl ?_
      refine XT.lcmp X4.here hx rfl (hb hby d20_30) rfl ?_
      exact cont
    by_cases hc5 : ((u_m - p1) + ((Int32.ofNat ts.length).toInt64)) < ((Int32.ofNat ts.length).toInt64)
    ·
      refine own_go (B := T4.setTop (mkF m 35 #[.val (.ref a), .val (.long p1), .second, .val (.long ((u_m - p1) + ((Int32.ofNat ts.length).toInt64))), .second, .val (.long (0 : Int64)), .second, .unset] [(.ref a)])) (fun tgt cont => ?_) ?_
      · refine XS.ifNo X4.here hx rfl (hb hby d20_31) rfl (XT.ll_ge_f hc5) ?_
        refine XS.aloadN X4.here hx rfl (hb hby d20_34) rfl rfl ?_
        exact cont
      obtain ⟨T6, X6, e6, st6⟩ := getF X4 hx hZ hown (host := "") (Or.inl (hw _ (List.mem_of_getElem? (i := 80) rfl))) Via.refl e4 F_a_newestSlot (g := (mkF m 35 #[.val (.ref a), .val (.long p1), .second, .val (.long ((u_m - p1) + ((Int32.ofNat ts.length).toInt64))), .second, .val (.long (0 : Int64)), .second, .unset] [(.ref a)])) rfl rfl (hb hby d20_35)
      refine own_go (fun tgt cont => st6 tgt cont) ?_
      show own_Go p e below s (Q_rm20 Z a p1 u_t u_m u_s ts h0 n0) 0 0 (T6.setTop (mkF m 38 #[.val (.ref a), .val (.long p1), .second, .val (.long ((u_m - p1) + ((Int32.ofNat ts.length).toInt64))), .second, .val (.long (0 : Int64)), .second, .unset] [(.int u_s)]))
      refine own_go (B := T6.setTop (mkF m 44 #[.val (.ref a), .val (.long p1), .second, .val (.long ((u_m - p1) + ((Int32.ofNat ts.length).toInt64))), .second, .val (.long (0 : Int64)), .second, .val (.int (u_s - (((u_m - p1) + ((Int32.ofNat ts.length).toInt64)).toInt32)))] [(.ref a)])) (fun tgt cont => ?_) ?_
      · refine XS.lloadN X6.here hx rfl (hb hby d20_38) rfl ?_
        refine XS.l2i X6.here hx rfl (hb hby d20_39) rfl ?_
        refine XS.isub X6.here hx rfl (hb hby d20_40) rfl ?_
        refine XS.istore X6.here hx rfl (hb hby d20_41) rfl (l' := #[.val (.ref a), .val (.long p1), .second, .val (.long ((u_m - p1) + ((Int32.ofNat ts.length).toInt64))), .second, .val (.long (0 : Int64)), .second, .val (.int (u_s - (((u_m - p1) + ((Int32.ofNat ts.length).toInt64)).toInt32)))]) rfl ?_
        refine XS.aloadN X6.here hx rfl (hb hby d20_43) rfl rfl ?_
        exact cont
      obtain ⟨T7, X7, e7, st7⟩ := getF X6 hx hZ hown (host := "") (Or.inl (hw _ (List.mem_of_getElem? (i := 58) rfl))) Via.refl e6 F_a_totals (g := (mkF m 44 #[.val (.ref a), .val (.long p1), .second, .val (.long ((u_m - p1) + ((Int32.ofNat ts.length).toInt64))), .second, .val (.long (0 : Int64)), .second, .val (.int (u_s - (((u_m - p1) + ((Int32.ofNat ts.length).toInt64)).toInt32)))] [(.ref a)])) rfl rfl (hb hby d20_44)
      refine own_go (fun tgt cont => st7 tgt cont) ?_
      show own_Go p e below s (Q_rm20 Z a p1 u_t u_m u_s ts h0 n0) 0 0 (T7.setTop (mkF m 47 #[.val (.ref a), .val (.long p1), .second, .val (.long ((u_m - p1) + ((Int32.ofNat ts.length).toInt64))), .second, .val (.long (0 : Int64)), .second, .val (.int (u_s - (((u_m - p1) + ((Int32.ofNat ts.length).toInt64)).toInt32)))] [(.ref u_t)]))
      refine own_go (B := T7.setTop (mkF m 49 #[.val (.ref a), .val (.long p1), .second, .val (.long ((u_m - p1) + ((Int32.ofNat ts.length).toInt64))), .second, .val (.long (0 : Int64)), .second, .val (.int (u_s - (((u_m - p1) + ((Int32.ofNat ts.length).toInt64)).toInt32)))] [(.int (u_s - (((u_m - p1) + ((Int32.ofNat ts.length).toInt64)).toInt32))), (.ref u_t)])) (fun tgt cont => ?_) ?_
      · refine XS.iload X7.here hx rfl (hb hby d20_47) rfl ?_
        exact cont
      by_cases hc8 : (u_s - (((u_m - p1) + ((Int32.ofNat ts.length).toInt64)).toInt32)) < 0
      ·
        refine own_go (B := T7.setTop (mkF m 55 #[.val (.ref a), .val (.long p1), .second, .val (.long ((u_m - p1) + ((Int32.ofNat ts.length).toInt64))), .second, .val (.long (0 : Int64)), .second, .val (.int (u_s - (((u_m - p1) + ((Int32.ofNat ts.length).toInt64)).toInt32)))] [(.ref a), (.int (u_s - (((u_m - p1) + ((Int32.ofNat ts.length).toInt64)).toInt32))), (.ref u_t)])) (fun tgt cont => ?_) ?_
        · refine XS.ifNo X7.here hx rfl (hb hby d20_49) rfl (XT.i0_ge_f hc8) ?_
          refine XS.iload X7.here hx rfl (hb hby d20_52) rfl ?_
          refine XS.aloadN X7.here hx rfl (hb hby d20_54) rfl rfl ?_
          exact cont
        obtain ⟨T9, X9, e9, st9⟩ := getF X7 hx hZ hown (host := "") (Or.inl (hw _ (List.mem_of_getElem? (i := 58) rfl))) Via.refl e7 F_a_totals (g := (mkF m 55 #[.val (.ref a), .val (.long p1), .second, .val (.long ((u_m - p1) + ((Int32.ofNat ts.length).toInt64))), .second, .val (.long (0 : Int64)), .second, .val (.int (u_s - (((u_m - p1) + ((Int32.ofNat ts.length).toInt64)).toInt32)))] [(.ref a), (.int (u_s - (((u_m - p1) + ((Int32.ofNat ts.length).toInt64)).toInt32))), (.ref u_t)])) rfl rfl (hb hby d20_55)
        refine own_go (fun tgt cont => st9 tgt cont) ?_
        show own_Go p e below s (Q_rm20 Z a p1 u_t u_m u_s ts h0 n0) 0 0 (T9.setTop (mkF m 58 #[.val (.ref a), .val (.long p1), .second, .val (.long ((u_m - p1) + ((Int32.ofNat ts.length).toInt64))), .second, .val (.long (0 : Int64)), .second, .val (.int (u_s - (((u_m - p1) + ((Int32.ofNat ts.length).toInt64)).toInt32)))] [(.ref u_t), (.int (u_s - (((u_m - p1) + ((Int32.ofNat ts.length).toInt64)).toInt32))), (.ref u_t)]))
        refine own_go (B := T9.setTop (mkF m 70 #[.val (.ref a), .val (.long p1), .second, .val (.long ((u_m - p1) + ((Int32.ofNat ts.length).toInt64))), .second, .val (.long (ts.getD ((u_s - (((u_m - p1) + ((Int32.ofNat ts.length).toInt64)).toInt32)) + (Int32.ofNat ts.length)).toNatClampNeg 0)), .second, .val (.int (u_s - (((u_m - p1) + ((Int32.ofNat ts.length).toInt64)).toInt32)))] [(.long (ts.getD ((u_s - (((u_m - p1) + ((Int32.ofNat ts.length).toInt64)).toInt32)) + (Int32.ofNat ts.length)).toNatClampNeg 0))])) (fun tgt cont => ?_) ?_
        · refine own_lenLA X9 hx hZ e9 A_u_t (g := (mkF m 58 #[.val (.ref a), .val (.long p1), .second, .val (.long ((u_m - p1) + ((Int32.ofNat ts.length).toInt64))), .second, .val (.long (0 : Int64)), .second, .val (.int (u_s - (((u_m - p1) + ((Int32.ofNat ts.length).toInt64)).toInt32)))] [(.ref u_t), (.int (u_s - (((u_m - p1) + ((Int32.ofNat ts.length).toInt64)).toInt32))), (.ref u_t)])) rfl rfl (hb hby d20_58) ?_
          refine XS.iadd X9.here hx rfl (hb hby d20_59) rfl ?_
          refine XS.goto X9.here hx rfl (pc0 := 60) (pc' := 65) rfl (hb hby d20_60) (by decide) (by decide) ?_
          refine own_ldLA X9 hx hZ e9 A_u_t (j := ((u_s - (((u_m - p1) + ((Int32.ofNat ts.length).toInt64)).toInt32)) + (Int32.ofNat ts.length))) (own_lv2 hs hc3 hc5 hc8 A_u_t.small) (g := (mkF m 65 #[.val (.ref a), .val (.long p1), .second, .val (.long ((u_m - p1) + ((Int32.ofNat ts.length).toInt64))), .second, .val (.long (0 : Int64)), .second, .val (.int (u_s - (((u_m - p1) + ((Int32.ofNat ts.length).toInt64)).toInt32)))] [(.int ((u_s - (((u_m - p1) + ((Int32.ofNat ts.length).toInt64)).toInt32)) + (Int32.ofNat ts.length))), (.ref u_t)])) rfl rfl (hb hby d20_65) ?_
          refine XS.lstore X9.here hx rfl (hb hby d20_66) rfl (l' := #[.val (.ref a), .val (.long p1), .second, .val (.long ((u_m - p1) + ((Int32.ofNat ts.length).toInt64))), .second, .val (.long (ts.getD ((u_s - (((u_m - p1) + ((Int32.ofNat ts.length).toInt64)).toInt32)) + (Int32.ofNat ts.length)).toNatClampNeg 0)), .second, .val (.int (u_s - (((u_m - p1) + ((Int32.ofNat ts.length).toInt64)).toInt32)))]) rfl ?_
          refine XS.lload X9.here hx rfl (hb hby d20_68) rfl ?_
          exact cont
        refine own_end X9 (v := some (.long (ts.getD ((u_s - (((u_m - p1) + ((Int32.ofNat ts.length).toInt64)).toInt32)) + (Int32.ofNat ts.length)).toNatClampNeg 0))) (fun h => by rw [Bd.returns] at h; cases h) hlk ?_ (by decide) (by decide) (fun fs hl => retOut X9 hx Bd.returns rfl (Or.inr (Or.inl ⟨rfl, rfl, _, rfl⟩)) (hb hby d20_70) hl)
        exact ⟨(by unfold own_lea_r; first | (simp only [if_neg hc3, if_pos hc5, if_pos hc8]; done) | (simp only [if_neg hc3, if_pos hc5, if_pos hc8]; exact rfl) | exact rfl), N0, e9⟩
      ·
        refine own_go (B := T7.setTop (mkF m 70 #[.val (.ref a), .val (.long p1), .second, .val (.long ((u_m - p1) + ((Int32.ofNat ts.length).toInt64))), .second, .val (.long (ts.getD (u_s - (((u_m - p1) + ((Int32.ofNat ts.length).toInt64)).toInt32)).toNatClampNeg 0)), .second, .val (.int (u_s - (((u_m - p1) + ((Int32.ofNat ts.length).toInt64)).toInt32)))] [(.long (ts.getD (u_s - (((u_m - p1) + ((Int32.ofNat ts.length).toInt64)).toInt32)).toNatClampNeg 0))])) (fun tgt cont => ?_) ?_
        · refine XS.ifYes X7.here hx rfl (pc0 := 49) (pc' := 63) rfl (hb hby d20_49) rfl (XT.i0_ge_t hc8) (by decide) (by decide) ?_
          refine XS.iload X7.here hx rfl (hb hby d20_63) rfl ?_
          refine own_ldLA X7 hx hZ e7 A_u_t (j := (u_s - (((u_m - p1) + ((Int32.ofNat ts.length).toInt64)).toInt32))) (own_lv1 hs hc3 hc5 hc8 A_u_t.small) (g := (mkF m 65 #[.val (.ref a), .val (.long p1), .second, .val (.long ((u_m - p1) + ((Int32.ofNat ts.length).toInt64))), .second, .val (.long (0 : Int64)), .second, .val (.int (u_s - (((u_m - p1) + ((Int32.ofNat ts.length).toInt64)).toInt32)))] [(.int (u_s - (((u_m - p1) + ((Int32.ofNat ts.length).toInt64)).toInt32))), (.ref u_t)])) rfl rfl (hb hby d20_65) ?_
          refine XS.lstore X7.here hx rfl (hb hby d20_66) rfl (l' := #[.val (.ref a), .val (.long p1), .second, .val (.long ((u_m - p1) + ((Int32.ofNat ts.length).toInt64))), .second, .val (.long (ts.getD (u_s - (((u_m - p1) + ((Int32.ofNat ts.length).toInt64)).toInt32)).toNatClampNeg 0)), .second, .val (.int (u_s - (((u_m - p1) + ((Int32.ofNat ts.length).toInt64)).toInt32)))]) rfl ?_
          refine XS.lload X7.here hx rfl (hb hby d20_68) rfl ?_
          exact cont
        refine own_end X7 (v := some (.long (ts.getD (u_s - (((u_m - p1) + ((Int32.ofNat ts.length).toInt64)).toInt32)).toNatClampNeg 0))) (fun h => by rw [Bd.returns] at h; cases h) hlk ?_ (by decide) (by decide) (fun fs hl => retOut X7 hx Bd.returns rfl (Or.inr (Or.inl ⟨rfl, rfl, _, rfl⟩)) (hb hby d20_70) hl)
        exact ⟨(by unfold own_lea_r; first | (simp only [if_neg hc3, if_pos hc5, if_neg hc8]; done) | (simp only [if_neg hc3, if_pos hc5, if_neg hc8]; exact rfl) | exact rfl), N0, e7⟩
    ·
      refine own_go (B := T4.setTop (mkF m 70 #[.val (.ref a), .val (.long p1), .second, .val (.long ((u_m - p1) + ((Int32.ofNat ts.length).toInt64))), .second, .val (.long (0 : Int64)), .second, .unset] [(.long (0 : Int64))])) (fun tgt cont => ?_) ?_
      · refine XS.ifYes X4.here hx rfl (pc0 := 31) (pc' := 68) rfl (hb hby d20_31) rfl (XT.ll_ge_t hc5) (by decide) (by decide) ?_
        refine XS.lload X4.here hx rfl (hb hby d20_68) rfl ?_
        exact cont
      refine own_end X4 (v := some (.long (0 : Int64))) (fun h => by rw [Bd.returns] at h; cases h) hlk ?_ (by decide) (by decide) (fun fs hl => retOut X4 hx Bd.returns rfl (Or.inr (Or.inl ⟨rfl, rfl, _, rfl⟩)) (hb hby d20_70) hl)
      exact ⟨(by unfold own_lea_r; first | (simp only [if_neg hc3, if_neg hc5]; done) | (simp only [if_neg hc3, if_neg hc5]; exact rfl) | exact rfl), N0, e4⟩
def own_mvA_newest (p1 : Int64) (u_b : Int64) : Int64 := (own_rst_newest p1 u_b)
def own_mvA_newestNumber (p1 : Int64) (u_b : Int64) : Int64 := (own_rst_newestNumber p1 u_b)
def own_mvA_newestSlot (p1 : Int64) (u_b : Int64) (ts : List Int64) : Int32 := (own_rst_newestSlot p1 u_b ts)
def Q_rm12_A (Z : State) (a : Addr) (p1 : Int64) (u_b : Int64) (u_w : Int64) (u_t : Addr) (u_n : Int64) (u_m : Int64) (u_s : Int32) (u_l : Int64) (ts : List Int64) (h0 : Heap) (n0 : Nat) (v : Option Value) (h : Heap) (L : List Loc) : Prop := v = none ∧ Fr n0 L ∧ Keep h0 h [a] ∧ Exa Z h a "com/example/eschborn/eschborn/engine/BucketWindow" ∧ Fld Z h a "com/example/eschborn/eschborn/engine/BucketWindow" "bucket" "J" (.long u_b) ∧ Fld Z h a "com/example/eschborn/eschborn/engine/BucketWindow" "window" "J" (.long u_w) ∧ Fld Z h a "com/example/eschborn/eschborn/engine/BucketWindow" "totals" "[J" (.ref u_t) ∧ Fld Z h a "com/example/eschborn/eschborn/engine/BucketWindow" "newest" "J" (.long (own_mvA_newest p1 u_b)) ∧ Fld Z h a "com/example/eschborn/eschborn/engine/BucketWindow" "newestNumber" "J" (.long (own_mvA_newestNumber p1 u_b)) ∧ Fld Z h a "com/example/eschborn/eschborn/engine/BucketWindow" "newestSlot" "I" (.int (own_mvA_newestSlot p1 u_b ts)) ∧ Fld Z h a "com/example/eschborn/eschborn/engine/BucketWindow" "load" "J" (.long u_l)
theorem own_pd6 : parseMethodDescriptor "(J)J" = some ⟨[.long], some .long⟩ := by decide +kernel
theorem own_pd7 : parseMethodDescriptor "(J)V" = some ⟨[.long], none⟩ := by decide +kernel
theorem d12_0 : decode prog_1_method_3_code 0 = .ok (.aload_n 0, 1) := by decide +kernel
theorem d12_1 : decode prog_1_method_3_code 1 = .ok (.lload_n 1, 1) := by decide +kernel
theorem d12_2 : decode prog_1_method_3_code 2 = .ok (.invokevirtual 44, 3) := by decide +kernel
theorem d12_5 : decode prog_1_method_3_code 5 = .ok (.lstore_n 3, 1) := by decide +kernel
theorem d12_6 : decode prog_1_method_3_code 6 = .ok (.aload_n 0, 1) := by decide +kernel
theorem d12_7 : decode prog_1_method_3_code 7 = .ok (.getfield 48, 3) := by decide +kernel
theorem d12_10 : decode prog_1_method_3_code 10 = .ok (.lconst 0, 1) := by decide +kernel
theorem d12_11 : decode prog_1_method_3_code 11 = .ok (.lcmp, 1) := by decide +kernel
theorem d12_12 : decode prog_1_method_3_code 12 = .ok (.ifCond .ne 11, 3) := by decide +kernel
theorem d12_15 : decode prog_1_method_3_code 15 = .ok (.aload_n 0, 1) := by decide +kernel
theorem d12_16 : decode prog_1_method_3_code 16 = .ok (.lload_n 1, 1) := by decide +kernel
theorem d12_17 : decode prog_1_method_3_code 17 = .ok (.invokevirtual 51, 3) := by decide +kernel
theorem d12_20 : decode prog_1_method_3_code 20 = .ok (.goto 119, 3) := by decide +kernel
theorem d12_139 : decode prog_1_method_3_code 139 = .ok (.return_, 1) := by decide +kernel
set_option maxRecDepth 65536 in
set_option maxHeartbeats 40000000 in
theorem rm12_A (l : Launch) (Z : State) (a0 : Array Value) (hw : ∀ d ∈ tables_1, d.before a0 Z = true) (ws : List Jvm.Cond) (a : Addr) (p1 : Int64) (u_b : Int64) (u_w : Int64) (u_t : Addr) (u_n : Int64) (u_m : Int64) (u_s : Int32) (u_l : Int64) (ts : List Int64) (h0 : Heap) (n0 : Nat) (Z0 : n0 ≤ h0.size) (E_a : Exa Z h0 a "com/example/eschborn/eschborn/engine/BucketWindow") (F_a_bucket : Fld Z h0 a "com/example/eschborn/eschborn/engine/BucketWindow" "bucket" "J" (.long u_b)) (F_a_window : Fld Z h0 a "com/example/eschborn/eschborn/engine/BucketWindow" "window" "J" (.long u_w)) (F_a_totals : Fld Z h0 a "com/example/eschborn/eschborn/engine/BucketWindow" "totals" "[J" (.ref u_t)) (F_a_newest : Fld Z h0 a "com/example/eschborn/eschborn/engine/BucketWindow" "newest" "J" (.long u_n)) (F_a_newestNumber : Fld Z h0 a "com/example/eschborn/eschborn/engine/BucketWindow" "newestNumber" "J" (.long u_m)) (F_a_newestSlot : Fld Z h0 a "com/example/eschborn/eschborn/engine/BucketWindow" "newestSlot" "I" (.int u_s)) (F_a_load : Fld Z h0 a "com/example/eschborn/eschborn/engine/BucketWindow" "load" "J" (.long u_l)) (g_a : n0 ≤ a) (A_u_t : own_LA Z h0 u_t ts) (q1 : (0 : Int64) < u_b) (hnz : u_b ≠ 0) (q2 : ¬ p1 < ((-9223372036854775808 : Int64) + (own_fm p1 u_b))) (hlz : (Int32.ofNat ts.length).toInt64 ≠ 0) (hl : u_l = (0 : Int64)) :
    MetFree l (⟨"com/example/eschborn/eschborn/engine/BucketWindow", "moveOn", "(J)V"⟩ : MethodName) (head1 (Jvm.Cond.code (⟨"com/example/eschborn/eschborn/engine/BucketWindow", "moveOn", "(J)V"⟩ : MethodName) prog_1_method_3_code 7 none :: ws) ({ frames := 3, cells := 0, slots := 0, locals := 49 } : Room)) (fun aa U => aa = #[(.ref a), (.long p1)] ∧ Z.Warmed39 U.vm ∧ U.heap = h0) (fun _ _ _ _ _ => True) (fun _ U o U' => ∃ v L, o = .returned v ∧ Q_rm12_A Z a p1 u_b u_w u_t u_n u_m u_s u_l ts h0 n0 v U'.heap L ∧ FrameEnd U o U' L ({ frames := 3, cells := 0, slots := 0, locals := 49 } : Room).cells ({ frames := 3, cells := 0, slots := 0, locals := 49 } : Room).slots) := by
  refine MetFree.of_bodySF (plainFor_of_name own_pn3) hisR ?_
  intro p e s m args below meth c s₁ Bd hml0 hP hK
  obtain ⟨rfl, hZ, hh⟩ := hP
  have hx := Bd.exec
  have hby := Bd.bytes
  have hml : c.maxLocals = 7 := hml0
  have hlk : meth.locks = false := BodyLoose.notSynchronized Bd
  have hown : s.vm.findClass "com/example/eschborn/eschborn/engine/BucketWindow" = some m.cls := findClass_of_methodNamed Bd.named
  have hnm := (name_of_methodNamed Bd.named Bd.method).1
  have X0 : Stand p l e ({ frames := 3, cells := 0, slots := 0, locals := 49 } : Room) s m #[(.ref a), (.long p1)] below meth c s₁ [] 0 0 := Stand.of_body Bd
  have e0 : s₁.heap = h0 := by rw [← hh, Bd.state]; rfl
  have N0 := Fr.nil n0
  show own_Go p e below s (Q_rm12_A Z a p1 u_b u_w u_t u_n u_m u_s u_l ts h0 n0) 0 0 (s₁.setTop (entryFrame m #[(.ref a), (.long p1)] 7))
  refine own_go (B := s₁.setTop (mkF m 0 #[.val (.ref a), .val (.long p1), .second, .unset, .unset, .unset, .unset] [])) (fun tgt cont => (XT.entry rfl).trans cont) ?_
  have ne_a_u_t := own_neA E_a (hw _ (List.mem_of_getElem? (i := 3) rfl)) A_u_t.arr
  refine own_go (B := s₁.setTop (mkF m 2 #[.val (.ref a), .val (.long p1), .second, .unset, .unset, .unset, .unset] [(.long p1), (.ref a)])) (fun tgt cont => ?_) ?_
  · refine XS.aloadN X0.here hx rfl (hb hby d12_0) rfl rfl ?_
    refine XS.lloadN X0.here hx rfl (hb hby d12_1) rfl ?_
    exact cont
  -- pc 2: BucketWindow.passed
  obtain ⟨cc1, ca1, cb1⟩ := E_a.cell
  obtain ⟨_, _, ⟨T1, L1, k1, n1⟩, -, X1, ⟨Lc1, hQ1, l1, y1, z1⟩, st1⟩ := X0.privateBack hx (y := (⟨"com/example/eschborn/eschborn/engine/BucketWindow", "passed", "(J)J"⟩ : MethodName)) hown (mvT hZ (hw _ (List.mem_of_getElem? (i := 88) rfl))) (mvT hZ (hw _ (List.mem_of_getElem? (i := 89) rfl))) (own_selP hZ (hw _ (List.mem_of_getElem? (i := 3) rfl)) (hw _ (List.mem_of_getElem? (i := 89) rfl)) (hw _ (List.mem_of_getElem? (i := 90) rfl))) (Cond.privateMethod_at (mvP hZ (hw _ (List.mem_of_getElem? (i := 90) rfl)) (args := #[]))) (mvT hZ (hw _ (List.mem_of_getElem? (i := 91) rfl))) (by decide) (backOf (W := 0) (rm13 l Z a0 hw [] a p1 u_b u_w u_t u_n ts h0 n0 Z0 E_a F_a_bucket F_a_window F_a_totals F_a_newest A_u_t hnz) hZ (hw _ (List.mem_of_getElem? (i := 91) rfl)) (hw _ (List.mem_of_getElem? (i := 4) rfl)) (by decide) (by decide)) (g := (mkF m 2 #[.val (.ref a), .val (.long p1), .second, .unset, .unset, .unset, .unset] [(.long p1), (.ref a)])) rfl (by rw [hml]; rfl) (Steps.refl _) (a := a) (by rw [e0]; exact ca1) cb1 (argsL := [(.long p1)]) (rest := []) (lenOf own_pd6 rfl) rfl (by show 2 * 0 + _ ≤ _; exact Nat.le_of_eq rfl) (hb hby d12_2) (fun _ _ => ⟨rfl, e0, (by decide : 0 + 0 ≤ _), (by decide : 0 + 0 ≤ _)⟩)
  dsimp only [Pt.U, Pt.locs, Pt.cells, Pt.slots] at X1 l1 y1 z1 st1 hQ1
  subst l1 y1 z1
  obtain ⟨rfl, N1q, e1⟩ := hQ1
  have N1 := Fr.app N0 N1q
  refine own_go (fun tgt cont => st1.trans cont) ?_
  show own_Go p e below s (Q_rm12_A Z a p1 u_b u_w u_t u_n u_m u_s u_l ts h0 n0) 0 0 (T1.setTop (mkF m 5 #[.val (.ref a), .val (.long p1), .second, .unset, .unset, .unset, .unset] [(.long (own_pas_r p1 u_b u_w u_n ts))]))
  refine own_go (B := T1.setTop (mkF m 7 #[.val (.ref a), .val (.long p1), .second, .val (.long (own_pas_r p1 u_b u_w u_n ts)), .second, .unset, .unset] [(.ref a)])) (fun tgt cont => ?_) ?_
  · refine XS.lstoreN X1.here hx rfl (hb hby d12_5) rfl (l' := #[.val (.ref a), .val (.long p1), .second, .val (.long (own_pas_r p1 u_b u_w u_n ts)), .second, .unset, .unset]) rfl ?_
    refine XS.aloadN X1.here hx rfl (hb hby d12_6) rfl rfl ?_
    exact cont
  obtain ⟨T2, X2, e2, st2⟩ := getF X1 hx hZ hown (host := "") (Or.inl (hw _ (List.mem_of_getElem? (i := 82) rfl))) Via.refl e1 F_a_load (g := (mkF m 7 #[.val (.ref a), .val (.long p1), .second, .val (.long (own_pas_r p1 u_b u_w u_n ts)), .second, .unset, .unset] [(.ref a)])) rfl rfl (hb hby d12_7)
  refine own_go (fun tgt cont => st2 tgt cont) ?_
  show own_Go p e below s (Q_rm12_A Z a p1 u_b u_w u_t u_n u_m u_s u_l ts h0 n0) 0 0 (T2.setTop (mkF m 10 #[.val (.ref a), .val (.long p1), .second, .val (.long (own_pas_r p1 u_b u_w u_n ts)), .second, .unset, .unset] [(.long u_l)]))
  refine own_go (B := T2.setTop (mkF m 17 #[.val (.ref a), .val (.long p1), .second, .val (.long (own_pas_r p1 u_b u_w u_n ts)), .second, .unset, .unset] [(.long p1), (.ref a)])) (fun tgt cont => ?_) ?_
  · refine XT.lconstV X2.here hx rfl (0 : Int64) (hb hby d12_10) rfl ?_
    refine XT.lcmp X2.here hx rfl (hb hby d12_11) rfl ?_
    refine XS.ifNo X2.here hx rfl (hb hby d12_12) rfl (XT.ll_ne_f hl) ?_
    refine XS.aloadN X2.here hx rfl (hb hby d12_15) rfl rfl ?_
    refine XS.lloadN X2.here hx rfl (hb hby d12_16) rfl ?_
    exact cont
  -- pc 17: BucketWindow.restart
  obtain ⟨cc3, ca3, cb3⟩ := E_a.cell
  obtain ⟨_, _, ⟨T3, L3, k3, n3⟩, -, X3, ⟨Lc3, hQ3, l3, y3, z3⟩, st3⟩ := X2.privateBack hx (y := (⟨"com/example/eschborn/eschborn/engine/BucketWindow", "restart", "(J)V"⟩ : MethodName)) hown (mvT hZ (hw _ (List.mem_of_getElem? (i := 96) rfl))) (mvT hZ (hw _ (List.mem_of_getElem? (i := 97) rfl))) (own_selP hZ (hw _ (List.mem_of_getElem? (i := 3) rfl)) (hw _ (List.mem_of_getElem? (i := 97) rfl)) (hw _ (List.mem_of_getElem? (i := 98) rfl))) (Cond.privateMethod_at (mvP hZ (hw _ (List.mem_of_getElem? (i := 98) rfl)) (args := #[]))) (mvT hZ (hw _ (List.mem_of_getElem? (i := 99) rfl))) (by decide) (backOf (W := 0) (rm15 l Z a0 hw [] a p1 u_b u_w u_t u_n u_m u_s u_l ts h0 n0 Z0 E_a F_a_bucket F_a_window F_a_totals F_a_newest F_a_newestNumber F_a_newestSlot F_a_load g_a A_u_t q1 hnz q2 hlz) hZ (hw _ (List.mem_of_getElem? (i := 99) rfl)) (hw _ (List.mem_of_getElem? (i := 4) rfl)) (by decide) (by decide)) (g := (mkF m 17 #[.val (.ref a), .val (.long p1), .second, .val (.long (own_pas_r p1 u_b u_w u_n ts)), .second, .unset, .unset] [(.long p1), (.ref a)])) rfl (by rw [hml]; rfl) (Steps.refl _) (a := a) (by rw [e2]; exact ca3) cb3 (argsL := [(.long p1)]) (rest := []) (lenOf own_pd7 rfl) rfl (by show 2 * 0 + _ ≤ _; exact Nat.le_of_eq rfl) (hb hby d12_17) (fun _ _ => ⟨rfl, e2, (by decide : 0 + 0 + 0 ≤ _), (by decide : 0 + 0 + 0 ≤ _)⟩)
  dsimp only [Pt.U, Pt.locs, Pt.cells, Pt.slots] at X3 l3 y3 z3 st3 hQ3
  subst l3 y3 z3
  obtain ⟨rfl, N3q, K3, ex3_0, fa3_0, fa3_1, fa3_2, fa3_3, fa3_4, fa3_5, fa3_6⟩ := hQ3
  have N3 := Fr.app N1 N3q
  have kk3 : Keep h0 T3.heap [a] := (Keep.refl h0 [a]).trans K3 (allS (Or.inl (List.mem_of_getElem? (i := 0) rfl)) all0)
  have zp3 : n0 ≤ T3.heap.size := Nat.le_trans Z0 kk3.1
  refine own_go (fun tgt cont => st3.trans cont) ?_
  show own_Go p e below s (Q_rm12_A Z a p1 u_b u_w u_t u_n u_m u_s u_l ts h0 n0) 0 0 (T3.setTop (mkF m 20 #[.val (.ref a), .val (.long p1), .second, .val (.long (own_pas_r p1 u_b u_w u_n ts)), .second, .unset, .unset] []))
  refine own_go (B := T3.setTop (mkF m 139 #[.val (.ref a), .val (.long p1), .second, .val (.long (own_pas_r p1 u_b u_w u_n ts)), .second, .unset, .unset] [])) (fun tgt cont => ?_) ?_
  · refine XS.goto X3.here hx rfl (pc0 := 20) (pc' := 139) rfl (hb hby d12_20) (by decide) (by decide) ?_
    exact cont
  refine own_end X3 (v := none) (fun _ => rfl) hlk ?_ (by decide) (by decide) (fun fs hl => X3.returnOut hx Bd.returns (hb hby d12_139) hl)
  exact ⟨rfl, N3, kk3, ex3_0, fa3_0, fa3_1, fa3_2, (by unfold own_mvA_newest; exact fa3_3), (by unfold own_mvA_newestNumber; exact fa3_4), (by unfold own_mvA_newestSlot; exact fa3_5), fa3_6⟩
def own_adA_newest (p1 : Int64) (u_b : Int64) (u_n : Int64) : Int64 := if (own_cmpU (p1 - u_n) u_b) < 0 then u_n else (own_mvA_newest p1 u_b)
def own_adA_newestNumber (p1 : Int64) (u_b : Int64) (u_n : Int64) (u_m : Int64) : Int64 := if (own_cmpU (p1 - u_n) u_b) < 0 then u_m else (own_mvA_newestNumber p1 u_b)
def own_adA_newestSlot (p1 : Int64) (u_b : Int64) (u_n : Int64) (u_s : Int32) (ts : List Int64) : Int32 := if (own_cmpU (p1 - u_n) u_b) < 0 then u_s else (own_mvA_newestSlot p1 u_b ts)
def Q_rm8_A (Z : State) (a : Addr) (p1 : Int64) (u_b : Int64) (u_w : Int64) (u_t : Addr) (u_n : Int64) (u_m : Int64) (u_s : Int32) (u_l : Int64) (ts : List Int64) (h0 : Heap) (n0 : Nat) (v : Option Value) (h : Heap) (L : List Loc) : Prop := v = none ∧ Fr n0 L ∧ Keep h0 h [a] ∧ Exa Z h a "com/example/eschborn/eschborn/engine/BucketWindow" ∧ Fld Z h a "com/example/eschborn/eschborn/engine/BucketWindow" "bucket" "J" (.long u_b) ∧ Fld Z h a "com/example/eschborn/eschborn/engine/BucketWindow" "window" "J" (.long u_w) ∧ Fld Z h a "com/example/eschborn/eschborn/engine/BucketWindow" "totals" "[J" (.ref u_t) ∧ Fld Z h a "com/example/eschborn/eschborn/engine/BucketWindow" "newest" "J" (.long (own_adA_newest p1 u_b u_n)) ∧ Fld Z h a "com/example/eschborn/eschborn/engine/BucketWindow" "newestNumber" "J" (.long (own_adA_newestNumber p1 u_b u_n u_m)) ∧ Fld Z h a "com/example/eschborn/eschborn/engine/BucketWindow" "newestSlot" "I" (.int (own_adA_newestSlot p1 u_b u_n u_s ts)) ∧ Fld Z h a "com/example/eschborn/eschborn/engine/BucketWindow" "load" "J" (.long u_l)
theorem d8_0 : decode prog_1_method_2_code 0 = .ok (.lload_n 1, 1) := by decide +kernel
theorem d8_1 : decode prog_1_method_2_code 1 = .ok (.aload_n 0, 1) := by decide +kernel
theorem d8_2 : decode prog_1_method_2_code 2 = .ok (.getfield 31, 3) := by decide +kernel
theorem d8_5 : decode prog_1_method_2_code 5 = .ok (.lsub, 1) := by decide +kernel
theorem d8_6 : decode prog_1_method_2_code 6 = .ok (.aload_n 0, 1) := by decide +kernel
theorem d8_7 : decode prog_1_method_2_code 7 = .ok (.getfield 13, 3) := by decide +kernel
theorem d8_10 : decode prog_1_method_2_code 10 = .ok (.invokestatic 34, 3) := by decide +kernel
theorem d8_13 : decode prog_1_method_2_code 13 = .ok (.ifCond .lt 8, 3) := by decide +kernel
theorem d8_16 : decode prog_1_method_2_code 16 = .ok (.aload_n 0, 1) := by decide +kernel
theorem d8_17 : decode prog_1_method_2_code 17 = .ok (.lload_n 1, 1) := by decide +kernel
theorem d8_18 : decode prog_1_method_2_code 18 = .ok (.invokevirtual 40, 3) := by decide +kernel
theorem d8_21 : decode prog_1_method_2_code 21 = .ok (.return_, 1) := by decide +kernel
set_option maxRecDepth 65536 in
set_option maxHeartbeats 40000000 in
theorem rm8_A (l : Launch) (Z : State) (a0 : Array Value) (hw : ∀ d ∈ tables_1, d.before a0 Z = true) (ws : List Jvm.Cond) (a : Addr) (p1 : Int64) (u_b : Int64) (u_w : Int64) (u_t : Addr) (u_n : Int64) (u_m : Int64) (u_s : Int32) (u_l : Int64) (ts : List Int64) (h0 : Heap) (n0 : Nat) (Z0 : n0 ≤ h0.size) (E_a : Exa Z h0 a "com/example/eschborn/eschborn/engine/BucketWindow") (F_a_bucket : Fld Z h0 a "com/example/eschborn/eschborn/engine/BucketWindow" "bucket" "J" (.long u_b)) (F_a_window : Fld Z h0 a "com/example/eschborn/eschborn/engine/BucketWindow" "window" "J" (.long u_w)) (F_a_totals : Fld Z h0 a "com/example/eschborn/eschborn/engine/BucketWindow" "totals" "[J" (.ref u_t)) (F_a_newest : Fld Z h0 a "com/example/eschborn/eschborn/engine/BucketWindow" "newest" "J" (.long u_n)) (F_a_newestNumber : Fld Z h0 a "com/example/eschborn/eschborn/engine/BucketWindow" "newestNumber" "J" (.long u_m)) (F_a_newestSlot : Fld Z h0 a "com/example/eschborn/eschborn/engine/BucketWindow" "newestSlot" "I" (.int u_s)) (F_a_load : Fld Z h0 a "com/example/eschborn/eschborn/engine/BucketWindow" "load" "J" (.long u_l)) (g_a : n0 ≤ a) (A_u_t : own_LA Z h0 u_t ts) (q1 : (0 : Int64) < u_b) (hnz : u_b ≠ 0) (q2 : ¬ p1 < ((-9223372036854775808 : Int64) + (own_fm p1 u_b))) (hlz : (Int32.ofNat ts.length).toInt64 ≠ 0) (hl : u_l = (0 : Int64)) :
    MetFree l (⟨"com/example/eschborn/eschborn/engine/BucketWindow", "advance", "(J)V"⟩ : MethodName) (head1 (Jvm.Cond.code (⟨"com/example/eschborn/eschborn/engine/BucketWindow", "advance", "(J)V"⟩ : MethodName) prog_1_method_2_code 3 none :: ws) ({ frames := 4, cells := 0, slots := 0, locals := 67 } : Room)) (fun aa U => aa = #[(.ref a), (.long p1)] ∧ Z.Warmed39 U.vm ∧ U.heap = h0) (fun _ _ _ _ _ => True) (fun _ U o U' => ∃ v L, o = .returned v ∧ Q_rm8_A Z a p1 u_b u_w u_t u_n u_m u_s u_l ts h0 n0 v U'.heap L ∧ FrameEnd U o U' L ({ frames := 4, cells := 0, slots := 0, locals := 67 } : Room).cells ({ frames := 4, cells := 0, slots := 0, locals := 67 } : Room).slots) := by
  refine MetFree.of_bodySF (plainFor_of_name own_pn3) hisR ?_
  intro p e s m args below meth c s₁ Bd hml0 hP hK
  obtain ⟨rfl, hZ, hh⟩ := hP
  have hx := Bd.exec
  have hby := Bd.bytes
  have hml : c.maxLocals = 3 := hml0
  have hlk : meth.locks = false := BodyLoose.notSynchronized Bd
  have hown : s.vm.findClass "com/example/eschborn/eschborn/engine/BucketWindow" = some m.cls := findClass_of_methodNamed Bd.named
  have hnm := (name_of_methodNamed Bd.named Bd.method).1
  have X0 : Stand p l e ({ frames := 4, cells := 0, slots := 0, locals := 67 } : Room) s m #[(.ref a), (.long p1)] below meth c s₁ [] 0 0 := Stand.of_body Bd
  have e0 : s₁.heap = h0 := by rw [← hh, Bd.state]; rfl
  have N0 := Fr.nil n0
  show own_Go p e below s (Q_rm8_A Z a p1 u_b u_w u_t u_n u_m u_s u_l ts h0 n0) 0 0 (s₁.setTop (entryFrame m #[(.ref a), (.long p1)] 3))
  refine own_go (B := s₁.setTop (mkF m 0 #[.val (.ref a), .val (.long p1), .second] [])) (fun tgt cont => (XT.entry rfl).trans cont) ?_
  have ne_a_u_t := own_neA E_a (hw _ (List.mem_of_getElem? (i := 3) rfl)) A_u_t.arr
  refine own_go (B := s₁.setTop (mkF m 2 #[.val (.ref a), .val (.long p1), .second] [(.ref a), (.long p1)])) (fun tgt cont => ?_) ?_
  · refine XS.lloadN X0.here hx rfl (hb hby d8_0) rfl ?_
    refine XS.aloadN X0.here hx rfl (hb hby d8_1) rfl rfl ?_
    exact cont
  obtain ⟨T1, X1, e1, st1⟩ := getF X0 hx hZ hown (host := "") (Or.inl (hw _ (List.mem_of_getElem? (i := 65) rfl))) Via.refl e0 F_a_newest (g := (mkF m 2 #[.val (.ref a), .val (.long p1), .second] [(.ref a), (.long p1)])) rfl rfl (hb hby d8_2)
  refine own_go (fun tgt cont => st1 tgt cont) ?_
  show own_Go p e below s (Q_rm8_A Z a p1 u_b u_w u_t u_n u_m u_s u_l ts h0 n0) 0 0 (T1.setTop (mkF m 5 #[.val (.ref a), .val (.long p1), .second] [(.long u_n), (.long p1)]))
  refine own_go (B := T1.setTop (mkF m 7 #[.val (.ref a), .val (.long p1), .second] [(.ref a), (.long (p1 - u_n))])) (fun tgt cont => ?_) ?_
  · refine XS.lsub X1.here hx rfl (hb hby d8_5) rfl ?_
    refine XS.aloadN X1.here hx rfl (hb hby d8_6) rfl rfl ?_
    exact cont
  obtain ⟨T2, X2, e2, st2⟩ := getF X1 hx hZ hown (host := "") (Or.inl (hw _ (List.mem_of_getElem? (i := 43) rfl))) Via.refl e1 F_a_bucket (g := (mkF m 7 #[.val (.ref a), .val (.long p1), .second] [(.ref a), (.long (p1 - u_n))])) rfl rfl (hb hby d8_7)
  refine own_go (fun tgt cont => st2 tgt cont) ?_
  show own_Go p e below s (Q_rm8_A Z a p1 u_b u_w u_t u_n u_m u_s u_l ts h0 n0) 0 0 (T2.setTop (mkF m 10 #[.val (.ref a), .val (.long p1), .second] [(.long u_b), (.long (p1 - u_n))]))
  -- pc 10: Long.compareUnsigned
  obtain ⟨_, _, ⟨T3, L3, k3, n3⟩, -, X3, ⟨Lc3, hQ3, l3, y3, z3⟩, st3⟩ := Jvm.LawKit.callS X2 hx (y := (⟨"java/lang/Long", "compareUnsigned", "(JJ)I"⟩ : MethodName)) hown (mvT hZ (hw _ (List.mem_of_getElem? (i := 67) rfl))) (mvT hZ (hw _ (List.mem_of_getElem? (i := 68) rfl))) (mvT hZ (hw _ (List.mem_of_getElem? (i := 69) rfl))) (mvT hZ (hw _ (List.mem_of_getElem? (i := 70) rfl))) (by decide) (backOf (W := 0) (rm9 l Z a0 hw [] (p1 - u_n) u_b h0 n0 Z0 ) hZ (hw _ (List.mem_of_getElem? (i := 70) rfl)) (hw _ (List.mem_of_getElem? (i := 69) rfl)) (by decide) (by decide)) (g := (mkF m 10 #[.val (.ref a), .val (.long p1), .second] [(.long u_b), (.long (p1 - u_n))])) rfl (by rw [hml]; rfl) (argsL := [(.long (p1 - u_n)), (.long u_b)]) (rest := []) (lenOf own_pd1 rfl) rfl (by show 2 * 0 + _ ≤ _; exact Nat.le_of_eq rfl) (hb hby d8_10) (fun _ _ => ⟨rfl, e2, (by decide : 0 + 0 ≤ _), (by decide : 0 + 0 ≤ _)⟩)
  dsimp only [Pt.U, Pt.locs, Pt.cells, Pt.slots] at X3 l3 y3 z3 st3 hQ3
  subst l3 y3 z3
  obtain ⟨rfl, N3q, e3⟩ := hQ3
  have N3 := Fr.app N0 N3q
  refine own_go (fun tgt cont => st3 tgt cont) ?_
  show own_Go p e below s (Q_rm8_A Z a p1 u_b u_w u_t u_n u_m u_s u_l ts h0 n0) 0 0 (T3.setTop (mkF m 13 #[.val (.ref a), .val (.long p1), .second] [(.int (own_cmpU (p1 - u_n) u_b))]))
  by_cases hc4 : (own_cmpU (p1 - u_n) u_b) < 0
  ·
    refine own_go (B := T3.setTop (mkF m 21 #[.val (.ref a), .val (.long p1), .second] [])) (fun tgt cont => ?_) ?_
    · refine XS.ifYes X3.here hx rfl (pc0 := 13) (pc' := 21) rfl (hb hby d8_13) rfl (XT.i0_lt_t hc4) (by decide) (by decide) ?_
      exact cont
    refine own_end X3 (v := none) (fun _ => rfl) hlk ?_ (by decide) (by decide) (fun fs hl => X3.returnOut hx Bd.returns (hb hby d8_21) hl)
    rw [e3]
    exact ⟨rfl, N3, (Keep.refl h0 [a]), E_a, F_a_bucket, F_a_window, F_a_totals, (by unfold own_adA_newest; first | (simp only [if_pos hc4]; done) | (simp only [if_pos hc4]; exact F_a_newest) | exact F_a_newest), (by unfold own_adA_newestNumber; first | (simp only [if_pos hc4]; done) | (simp only [if_pos hc4]; exact F_a_newestNumber) | exact F_a_newestNumber), (by unfold own_adA_newestSlot; first | (simp only [if_pos hc4]; done) | (simp only [if_pos hc4]; exact F_a_newestSlot) | exact F_a_newestSlot), F_a_load⟩
  ·
    refine own_go (B := T3.setTop (mkF m 18 #[.val (.ref a), .val (.long p1), .second] [(.long p1), (.ref a)])) (fun tgt cont => ?_) ?_
    · refine XS.ifNo X3.here hx rfl (hb hby d8_13) rfl (XT.i0_lt_f hc4) ?_
      refine XS.aloadN X3.here hx rfl (hb hby d8_16) rfl rfl ?_
      refine XS.lloadN X3.here hx rfl (hb hby d8_17) rfl ?_
      exact cont
    -- pc 18: BucketWindow.moveOn
    obtain ⟨cc5, ca5, cb5⟩ := E_a.cell
    obtain ⟨_, _, ⟨T5, L5, k5, n5⟩, -, X5, ⟨Lc5, hQ5, l5, y5, z5⟩, st5⟩ := X3.privateBack hx (y := (⟨"com/example/eschborn/eschborn/engine/BucketWindow", "moveOn", "(J)V"⟩ : MethodName)) hown (mvT hZ (hw _ (List.mem_of_getElem? (i := 84) rfl))) (mvT hZ (hw _ (List.mem_of_getElem? (i := 85) rfl))) (own_selP hZ (hw _ (List.mem_of_getElem? (i := 3) rfl)) (hw _ (List.mem_of_getElem? (i := 85) rfl)) (hw _ (List.mem_of_getElem? (i := 86) rfl))) (Cond.privateMethod_at (mvP hZ (hw _ (List.mem_of_getElem? (i := 86) rfl)) (args := #[]))) (mvT hZ (hw _ (List.mem_of_getElem? (i := 87) rfl))) (by decide) (backOf (W := 0) (rm12_A l Z a0 hw [] a p1 u_b u_w u_t u_n u_m u_s u_l ts h0 n0 Z0 E_a F_a_bucket F_a_window F_a_totals F_a_newest F_a_newestNumber F_a_newestSlot F_a_load g_a A_u_t q1 hnz q2 hlz hl) hZ (hw _ (List.mem_of_getElem? (i := 87) rfl)) (hw _ (List.mem_of_getElem? (i := 4) rfl)) (by decide) (by decide)) (g := (mkF m 18 #[.val (.ref a), .val (.long p1), .second] [(.long p1), (.ref a)])) rfl (by rw [hml]; rfl) (Steps.refl _) (a := a) (by rw [e3]; exact ca5) cb5 (argsL := [(.long p1)]) (rest := []) (lenOf own_pd7 rfl) rfl (by show 2 * 0 + _ ≤ _; exact Nat.le_of_eq rfl) (hb hby d8_18) (fun _ _ => ⟨rfl, e3, (by decide : 0 + 0 + 0 ≤ _), (by decide : 0 + 0 + 0 ≤ _)⟩)
    dsimp only [Pt.U, Pt.locs, Pt.cells, Pt.slots] at X5 l5 y5 z5 st5 hQ5
    subst l5 y5 z5
    obtain ⟨rfl, N5q, K5, ex5_0, fa5_0, fa5_1, fa5_2, fa5_3, fa5_4, fa5_5, fa5_6⟩ := hQ5
    have N5 := Fr.app N3 N5q
    have kk5 : Keep h0 T5.heap [a] := (Keep.refl h0 [a]).trans K5 (allS (Or.inl (List.mem_of_getElem? (i := 0) rfl)) all0)
    have zp5 : n0 ≤ T5.heap.size := Nat.le_trans Z0 kk5.1
    refine own_go (fun tgt cont => st5.trans cont) ?_
    show own_Go p e below s (Q_rm8_A Z a p1 u_b u_w u_t u_n u_m u_s u_l ts h0 n0) 0 0 (T5.setTop (mkF m 21 #[.val (.ref a), .val (.long p1), .second] []))
    refine own_end X5 (v := none) (fun _ => rfl) hlk ?_ (by decide) (by decide) (fun fs hl => X5.returnOut hx Bd.returns (hb hby d8_21) hl)
    exact ⟨rfl, N5, kk5, ex5_0, fa5_0, fa5_1, fa5_2, (by unfold own_adA_newest; first | (simp only [if_neg hc4]; done) | (simp only [if_neg hc4]; exact fa5_3) | exact fa5_3), (by unfold own_adA_newestNumber; first | (simp only [if_neg hc4]; done) | (simp only [if_neg hc4]; exact fa5_4) | exact fa5_4), (by unfold own_adA_newestSlot; first | (simp only [if_neg hc4]; done) | (simp only [if_neg hc4]; exact fa5_5) | exact fa5_5), fa5_6⟩
def own_mvB_newest (p1 : Int64) (u_b : Int64) : Int64 := (own_rst_newest p1 u_b)
def own_mvB_newestNumber (p1 : Int64) (u_b : Int64) : Int64 := (own_rst_newestNumber p1 u_b)
def own_mvB_newestSlot (p1 : Int64) (u_b : Int64) (ts : List Int64) : Int32 := (own_rst_newestSlot p1 u_b (List.replicate ts.length (0 : Int64)))
def own_mvB_ts (ts : List Int64) : List Int64 := (List.replicate ts.length (0 : Int64))
def Q_rm12_B (Z : State) (a : Addr) (p1 : Int64) (u_b : Int64) (u_w : Int64) (u_t : Addr) (u_n : Int64) (u_m : Int64) (u_s : Int32) (u_l : Int64) (ts : List Int64) (h0 : Heap) (n0 : Nat) (v : Option Value) (h : Heap) (L : List Loc) : Prop := v = none ∧ Fr n0 L ∧ Keep h0 h [a, u_t] ∧ Exa Z h a "com/example/eschborn/eschborn/engine/BucketWindow" ∧ Fld Z h a "com/example/eschborn/eschborn/engine/BucketWindow" "bucket" "J" (.long u_b) ∧ Fld Z h a "com/example/eschborn/eschborn/engine/BucketWindow" "window" "J" (.long u_w) ∧ Fld Z h a "com/example/eschborn/eschborn/engine/BucketWindow" "totals" "[J" (.ref u_t) ∧ Fld Z h a "com/example/eschborn/eschborn/engine/BucketWindow" "newest" "J" (.long (own_mvB_newest p1 u_b)) ∧ Fld Z h a "com/example/eschborn/eschborn/engine/BucketWindow" "newestNumber" "J" (.long (own_mvB_newestNumber p1 u_b)) ∧ Fld Z h a "com/example/eschborn/eschborn/engine/BucketWindow" "newestSlot" "I" (.int (own_mvB_newestSlot p1 u_b ts)) ∧ Fld Z h a "com/example/eschborn/eschborn/engine/BucketWindow" "load" "J" (.long (0 : Int64)) ∧ own_LA Z h u_t (own_mvB_ts ts)
theorem own_pd8 : parseMethodDescriptor "([JJ)V" = some ⟨[(.array .long), .long], none⟩ := by decide +kernel
theorem d12_23 : decode prog_1_method_3_code 23 = .ok (.lload_n 3, 1) := by decide +kernel
theorem d12_24 : decode prog_1_method_3_code 24 = .ok (.aload_n 0, 1) := by decide +kernel
theorem d12_25 : decode prog_1_method_3_code 25 = .ok (.getfield 27, 3) := by decide +kernel
theorem d12_28 : decode prog_1_method_3_code 28 = .ok (.arraylength, 1) := by decide +kernel
theorem d12_29 : decode prog_1_method_3_code 29 = .ok (.i2l, 1) := by decide +kernel
theorem d12_30 : decode prog_1_method_3_code 30 = .ok (.lcmp, 1) := by decide +kernel
theorem d12_31 : decode prog_1_method_3_code 31 = .ok (.ifCond .ne 24, 3) := by decide +kernel
theorem d12_34 : decode prog_1_method_3_code 34 = .ok (.aload_n 0, 1) := by decide +kernel
theorem d12_35 : decode prog_1_method_3_code 35 = .ok (.getfield 27, 3) := by decide +kernel
theorem d12_38 : decode prog_1_method_3_code 38 = .ok (.lconst 0, 1) := by decide +kernel
theorem d12_39 : decode prog_1_method_3_code 39 = .ok (.invokestatic 54, 3) := by decide +kernel
theorem d12_42 : decode prog_1_method_3_code 42 = .ok (.aload_n 0, 1) := by decide +kernel
theorem d12_43 : decode prog_1_method_3_code 43 = .ok (.lconst 0, 1) := by decide +kernel
theorem d12_44 : decode prog_1_method_3_code 44 = .ok (.putfield 48, 3) := by decide +kernel
theorem d12_47 : decode prog_1_method_3_code 47 = .ok (.aload_n 0, 1) := by decide +kernel
theorem d12_48 : decode prog_1_method_3_code 48 = .ok (.lload_n 1, 1) := by decide +kernel
theorem d12_49 : decode prog_1_method_3_code 49 = .ok (.invokevirtual 51, 3) := by decide +kernel
theorem d12_52 : decode prog_1_method_3_code 52 = .ok (.goto 87, 3) := by decide +kernel
set_option maxRecDepth 65536 in
set_option maxHeartbeats 40000000 in
theorem rm12_B (l : Launch) (Z : State) (a0 : Array Value) (hw : ∀ d ∈ tables_1, d.before a0 Z = true) (ws : List Jvm.Cond) (a : Addr) (p1 : Int64) (u_b : Int64) (u_w : Int64) (u_t : Addr) (u_n : Int64) (u_m : Int64) (u_s : Int32) (u_l : Int64) (ts : List Int64) (h0 : Heap) (n0 : Nat) (Z0 : n0 ≤ h0.size) (E_a : Exa Z h0 a "com/example/eschborn/eschborn/engine/BucketWindow") (F_a_bucket : Fld Z h0 a "com/example/eschborn/eschborn/engine/BucketWindow" "bucket" "J" (.long u_b)) (F_a_window : Fld Z h0 a "com/example/eschborn/eschborn/engine/BucketWindow" "window" "J" (.long u_w)) (F_a_totals : Fld Z h0 a "com/example/eschborn/eschborn/engine/BucketWindow" "totals" "[J" (.ref u_t)) (F_a_newest : Fld Z h0 a "com/example/eschborn/eschborn/engine/BucketWindow" "newest" "J" (.long u_n)) (F_a_newestNumber : Fld Z h0 a "com/example/eschborn/eschborn/engine/BucketWindow" "newestNumber" "J" (.long u_m)) (F_a_newestSlot : Fld Z h0 a "com/example/eschborn/eschborn/engine/BucketWindow" "newestSlot" "I" (.int u_s)) (F_a_load : Fld Z h0 a "com/example/eschborn/eschborn/engine/BucketWindow" "load" "J" (.long u_l)) (g_a : n0 ≤ a) (A_u_t : own_LA Z h0 u_t ts) (g_u_t : n0 ≤ u_t) (q1 : (0 : Int64) < u_b) (hnz : u_b ≠ 0) (q2 : ¬ p1 < ((-9223372036854775808 : Int64) + (own_fm p1 u_b))) (hlz : (Int32.ofNat ts.length).toInt64 ≠ 0) (hl : ¬ u_l = (0 : Int64)) (hk : (own_pas_r p1 u_b u_w u_n ts) = (Int32.ofNat ts.length).toInt64) :
    MetFree l (⟨"com/example/eschborn/eschborn/engine/BucketWindow", "moveOn", "(J)V"⟩ : MethodName) (head1 (Jvm.Cond.code (⟨"com/example/eschborn/eschborn/engine/BucketWindow", "moveOn", "(J)V"⟩ : MethodName) prog_1_method_3_code 7 none :: ws) ({ frames := 3, cells := 0, slots := 0, locals := 49 } : Room)) (fun aa U => aa = #[(.ref a), (.long p1)] ∧ Z.Warmed39 U.vm ∧ U.heap = h0) (fun _ _ _ _ _ => True) (fun _ U o U' => ∃ v L, o = .returned v ∧ Q_rm12_B Z a p1 u_b u_w u_t u_n u_m u_s u_l ts h0 n0 v U'.heap L ∧ FrameEnd U o U' L ({ frames := 3, cells := 0, slots := 0, locals := 49 } : Room).cells ({ frames := 3, cells := 0, slots := 0, locals := 49 } : Room).slots) := by
  refine MetFree.of_bodySF (plainFor_of_name own_pn3) hisR ?_
  intro p e s m args below meth c s₁ Bd hml0 hP hK
  obtain ⟨rfl, hZ, hh⟩ := hP
  have hx := Bd.exec
  have hby := Bd.bytes
  have hml : c.maxLocals = 7 := hml0
  have hlk : meth.locks = false := BodyLoose.notSynchronized Bd
  have hown : s.vm.findClass "com/example/eschborn/eschborn/engine/BucketWindow" = some m.cls := findClass_of_methodNamed Bd.named
  have hnm := (name_of_methodNamed Bd.named Bd.method).1
  have X0 : Stand p l e ({ frames := 3, cells := 0, slots := 0, locals := 49 } : Room) s m #[(.ref a), (.long p1)] below meth c s₁ [] 0 0 := Stand.of_body Bd
  have e0 : s₁.heap = h0 := by rw [← hh, Bd.state]; rfl
  have N0 := Fr.nil n0
  show own_Go p e below s (Q_rm12_B Z a p1 u_b u_w u_t u_n u_m u_s u_l ts h0 n0) 0 0 (s₁.setTop (entryFrame m #[(.ref a), (.long p1)] 7))
  refine own_go (B := s₁.setTop (mkF m 0 #[.val (.ref a), .val (.long p1), .second, .unset, .unset, .unset, .unset] [])) (fun tgt cont => (XT.entry rfl).trans cont) ?_
  have ne_a_u_t := own_neA E_a (hw _ (List.mem_of_getElem? (i := 3) rfl)) A_u_t.arr
  refine own_go (B := s₁.setTop (mkF m 2 #[.val (.ref a), .val (.long p1), .second, .unset, .unset, .unset, .unset] [(.long p1), (.ref a)])) (fun tgt cont => ?_) ?_
  · refine XS.aloadN X0.here hx rfl (hb hby d12_0) rfl rfl ?_
    refine XS.lloadN X0.here hx rfl (hb hby d12_1) rfl ?_
    exact cont
  -- pc 2: BucketWindow.passed
  obtain ⟨cc1, ca1, cb1⟩ := E_a.cell
  obtain ⟨_, _, ⟨T1, L1, k1, n1⟩, -, X1, ⟨Lc1, hQ1, l1, y1, z1⟩, st1⟩ := X0.privateBack hx (y := (⟨"com/example/eschborn/eschborn/engine/BucketWindow", "passed", "(J)J"⟩ : MethodName)) hown (mvT hZ (hw _ (List.mem_of_getElem? (i := 88) rfl))) (mvT hZ (hw _ (List.mem_of_getElem? (i := 89) rfl))) (own_selP hZ (hw _ (List.mem_of_getElem? (i := 3) rfl)) (hw _ (List.mem_of_getElem? (i := 89) rfl)) (hw _ (List.mem_of_getElem? (i := 90) rfl))) (Cond.privateMethod_at (mvP hZ (hw _ (List.mem_of_getElem? (i := 90) rfl)) (args := #[]))) (mvT hZ (hw _ (List.mem_of_getElem? (i := 91) rfl))) (by decide) (backOf (W := 0) (rm13 l Z a0 hw [] a p1 u_b u_w u_t u_n ts h0 n0 Z0 E_a F_a_bucket F_a_window F_a_totals F_a_newest A_u_t hnz) hZ (hw _ (List.mem_of_getElem? (i := 91) rfl)) (hw _ (List.mem_of_getElem? (i := 4) rfl)) (by decide) (by decide)) (g := (mkF m 2 #[.val (.ref a), .val (.long p1), .second, .unset, .unset, .unset, .unset] [(.long p1), (.ref a)])) rfl (by rw [hml]; rfl) (Steps.refl _) (a := a) (by rw [e0]; exact ca1) cb1 (argsL := [(.long p1)]) (rest := []) (lenOf own_pd6 rfl) rfl (by show 2 * 0 + _ ≤ _; exact Nat.le_of_eq rfl) (hb hby d12_2) (fun _ _ => ⟨rfl, e0, (by decide : 0 + 0 ≤ _), (by decide : 0 + 0 ≤ _)⟩)
  dsimp only [Pt.U, Pt.locs, Pt.cells, Pt.slots] at X1 l1 y1 z1 st1 hQ1
  subst l1 y1 z1
  obtain ⟨rfl, N1q, e1⟩ := hQ1
  have N1 := Fr.app N0 N1q
  refine own_go (fun tgt cont => st1.trans cont) ?_
  show own_Go p e below s (Q_rm12_B Z a p1 u_b u_w u_t u_n u_m u_s u_l ts h0 n0) 0 0 (T1.setTop (mkF m 5 #[.val (.ref a), .val (.long p1), .second, .unset, .unset, .unset, .unset] [(.long (own_pas_r p1 u_b u_w u_n ts))]))
  refine own_go (B := T1.setTop (mkF m 7 #[.val (.ref a), .val (.long p1), .second, .val (.long (own_pas_r p1 u_b u_w u_n ts)), .second, .unset, .unset] [(.ref a)])) (fun tgt cont => ?_) ?_
  · refine XS.lstoreN X1.here hx rfl (hb hby d12_5) rfl (l' := #[.val (.ref a), .val (.long p1), .second, .val (.long (own_pas_r p1 u_b u_w u_n ts)), .second, .unset, .unset]) rfl ?_
    refine XS.aloadN X1.here hx rfl (hb hby d12_6) rfl rfl ?_
    exact cont
  obtain ⟨T2, X2, e2, st2⟩ := getF X1 hx hZ hown (host := "") (Or.inl (hw _ (List.mem_of_getElem? (i := 82) rfl))) Via.refl e1 F_a_load (g := (mkF m 7 #[.val (.ref a), .val (.long p1), .second, .val (.long (own_pas_r p1 u_b u_w u_n ts)), .second, .unset, .unset] [(.ref a)])) rfl rfl (hb hby d12_7)
  refine own_go (fun tgt cont => st2 tgt cont) ?_
  show own_Go p e below s (Q_rm12_B Z a p1 u_b u_w u_t u_n u_m u_s u_l ts h0 n0) 0 0 (T2.setTop (mkF m 10 #[.val (.ref a), .val (.long p1), .second, .val (.long (own_pas_r p1 u_b u_w u_n ts)), .second, .unset, .unset] [(.long u_l)]))
  refine own_go (B := T2.setTop (mkF m 25 #[.val (.ref a), .val (.long p1), .second, .val (.long (own_pas_r p1 u_b u_w u_n ts)), .second, .unset, .unset] [(.ref a), (.long (own_pas_r p1 u_b u_w u_n ts))])) (fun tgt cont => ?_) ?_
  · refine XT.lconstV X2.here hx rfl (0 : Int64) (hb hby d12_10) rfl ?_
    refine XT.lcmp X2.here hx rfl (hb hby d12_11) rfl ?_
    refine XS.ifYes X2.here hx rfl (pc0 := 12) (pc' := 23) rfl (hb hby d12_12) rfl (XT.ll_ne_t hl) (by decide) (by decide) ?_
    refine XS.lloadN X2.here hx rfl (hb hby d12_23) rfl ?_
    refine XS.aloadN X2.here hx rfl (hb hby d12_24) rfl rfl ?_
    exact cont
  obtain ⟨T3, X3, e3, st3⟩ := getF X2 hx hZ hown (host := "") (Or.inl (hw _ (List.mem_of_getElem? (i := 58) rfl))) Via.refl e2 F_a_totals (g := (mkF m 25 #[.val (.ref a), .val (.long p1), .second, .val (.long (own_pas_r p1 u_b u_w u_n ts)), .second, .unset, .unset] [(.ref a), (.long (own_pas_r p1 u_b u_w u_n ts))])) rfl rfl (hb hby d12_25)
  refine own_go (fun tgt cont => st3 tgt cont) ?_
  show own_Go p e below s (Q_rm12_B Z a p1 u_b u_w u_t u_n u_m u_s u_l ts h0 n0) 0 0 (T3.setTop (mkF m 28 #[.val (.ref a), .val (.long p1), .second, .val (.long (own_pas_r p1 u_b u_w u_n ts)), .second, .unset, .unset] [(.ref u_t), (.long (own_pas_r p1 u_b u_w u_n ts))]))
  refine own_go (B := T3.setTop (mkF m 35 #[.val (.ref a), .val (.long p1), .second, .val (.long (own_pas_r p1 u_b u_w u_n ts)), .second, .unset, .unset] [(.ref a)])) (fun tgt cont => ?_) ?_
  · refine own_lenLA X3 hx hZ e3 A_u_t (g := (mkF m 28 #[.val (.ref a), .val (.long p1), .second, .val (.long (own_pas_r p1 u_b u_w u_n ts)), .second, .unset, .unset] [(.ref u_t), (.long (own_pas_r p1 u_b u_w u_n ts))])) rfl rfl (hb hby d12_28) ?_
    refine XS.i2l X3.here hx rfl (hb hby d12_29) rfl ?_
    refine XT.lcmp X3.here hx rfl (hb hby d12_30) rfl ?_
    refine XS.ifNo X3.here hx rfl (hb hby d12_31) rfl (XT.ll_ne_f hk) ?_
    refine XS.aloadN X3.here hx rfl (hb hby d12_34) rfl rfl ?_
    exact cont
  obtain ⟨T4, X4, e4, st4⟩ := getF X3 hx hZ hown (host := "") (Or.inl (hw _ (List.mem_of_getElem? (i := 58) rfl))) Via.refl e3 F_a_totals (g := (mkF m 35 #[.val (.ref a), .val (.long p1), .second, .val (.long (own_pas_r p1 u_b u_w u_n ts)), .second, .unset, .unset] [(.ref a)])) rfl rfl (hb hby d12_35)
  refine own_go (fun tgt cont => st4 tgt cont) ?_
  show own_Go p e below s (Q_rm12_B Z a p1 u_b u_w u_t u_n u_m u_s u_l ts h0 n0) 0 0 (T4.setTop (mkF m 38 #[.val (.ref a), .val (.long p1), .second, .val (.long (own_pas_r p1 u_b u_w u_n ts)), .second, .unset, .unset] [(.ref u_t)]))
  refine own_go (B := T4.setTop (mkF m 39 #[.val (.ref a), .val (.long p1), .second, .val (.long (own_pas_r p1 u_b u_w u_n ts)), .second, .unset, .unset] [(.long (0 : Int64)), (.ref u_t)])) (fun tgt cont => ?_) ?_
  · refine XT.lconstV X4.here hx rfl (0 : Int64) (hb hby d12_38) rfl ?_
    exact cont
  -- pc 39: Arrays.fill
  obtain ⟨_, _, ⟨T5, L5, k5, n5⟩, -, X5, ⟨Lc5, hQ5, l5, y5, z5⟩, st5⟩ := Jvm.LawKit.callS X4 hx (y := (⟨"java/util/Arrays", "fill", "([JJ)V"⟩ : MethodName)) hown (mvT hZ (hw _ (List.mem_of_getElem? (i := 92) rfl))) (mvT hZ (hw _ (List.mem_of_getElem? (i := 93) rfl))) (mvT hZ (hw _ (List.mem_of_getElem? (i := 94) rfl))) (mvT hZ (hw _ (List.mem_of_getElem? (i := 95) rfl))) (by decide) (backOf (W := 0) (rm14 l Z a0 hw [] u_t (0 : Int64) ts h0 n0 Z0 A_u_t g_u_t) hZ (hw _ (List.mem_of_getElem? (i := 95) rfl)) (hw _ (List.mem_of_getElem? (i := 94) rfl)) (by decide) (by decide)) (g := (mkF m 39 #[.val (.ref a), .val (.long p1), .second, .val (.long (own_pas_r p1 u_b u_w u_n ts)), .second, .unset, .unset] [(.long (0 : Int64)), (.ref u_t)])) rfl (by rw [hml]; rfl) (argsL := [(.ref u_t), (.long (0 : Int64))]) (rest := []) (lenOf own_pd8 rfl) rfl (by show 2 * 0 + _ ≤ _; exact Nat.le_of_eq rfl) (hb hby d12_39) (fun _ _ => ⟨rfl, e4, (by decide : 0 + 0 + 0 ≤ _), (by decide : 0 + 0 + 0 ≤ _)⟩)
  dsimp only [Pt.U, Pt.locs, Pt.cells, Pt.slots] at X5 l5 y5 z5 st5 hQ5
  subst l5 y5 z5
  obtain ⟨rfl, N5q, K5, fa5_0⟩ := hQ5
  have N5 := Fr.app N1 N5q
  have kk5 : Keep h0 T5.heap [a, u_t] := (Keep.refl h0 [a, u_t]).trans K5 (allS (Or.inl (List.mem_of_getElem? (i := 1) rfl)) all0)
  have zp5 : n0 ≤ T5.heap.size := Nat.le_trans Z0 kk5.1
  refine own_go (fun tgt cont => st5 tgt cont) ?_
  show own_Go p e below s (Q_rm12_B Z a p1 u_b u_w u_t u_n u_m u_s u_l ts h0 n0) 0 0 (T5.setTop (mkF m 42 #[.val (.ref a), .val (.long p1), .second, .val (.long (own_pas_r p1 u_b u_w u_n ts)), .second, .unset, .unset] []))
  refine own_go (B := T5.setTop (mkF m 44 #[.val (.ref a), .val (.long p1), .second, .val (.long (own_pas_r p1 u_b u_w u_n ts)), .second, .unset, .unset] [(.long (0 : Int64)), (.ref a)])) (fun tgt cont => ?_) ?_
  · refine XS.aloadN X5.here hx rfl (hb hby d12_42) rfl rfl ?_
    refine XT.lconstV X5.here hx rfl (0 : Int64) (hb hby d12_43) rfl ?_
    exact cont
  have f7 := (F_a_load.keep K5 (ninS ne_a_u_t nin0))
  have f8 := (E_a.keep K5)
  obtain ⟨T6, h6, X6, e6, W6, st6⟩ := putF X5 hx hZ hown (host := "") (Or.inl (hw _ (List.mem_of_getElem? (i := 82) rfl))) Via.refl rfl f7 f8 (Or.inl (hw _ (List.mem_of_getElem? (i := 83) rfl))) (hw _ (List.mem_of_getElem? (i := 3) rfl)) (ty := .long) (by decide) rfl rfl (g := (mkF m 44 #[.val (.ref a), .val (.long p1), .second, .val (.long (own_pas_r p1 u_b u_w u_n ts)), .second, .unset, .unset] [(.long (0 : Int64)), (.ref a)])) rfl rfl (hb hby d12_44)
  have fw6 := f7.same W6
  have N6 := Fr.snoc X6 N5 g_a
  have kk6 : Keep h0 h6 [a, u_t] := kk5.wr W6 (Or.inl (List.mem_of_getElem? (i := 0) rfl))
  have zp6 : n0 ≤ h6.size := Nat.le_trans Z0 kk6.1
  refine own_go (fun tgt cont => st6 tgt cont) ?_
  show own_Go p e below s (Q_rm12_B Z a p1 u_b u_w u_t u_n u_m u_s u_l ts h0 n0) 0 0 (T6.setTop (mkF m 47 #[.val (.ref a), .val (.long p1), .second, .val (.long (own_pas_r p1 u_b u_w u_n ts)), .second, .unset, .unset] []))
  refine own_go (B := T6.setTop (mkF m 49 #[.val (.ref a), .val (.long p1), .second, .val (.long (own_pas_r p1 u_b u_w u_n ts)), .second, .unset, .unset] [(.long p1), (.ref a)])) (fun tgt cont => ?_) ?_
  · refine XS.aloadN X6.here hx rfl (hb hby d12_47) rfl rfl ?_
    refine XS.lloadN X6.here hx rfl (hb hby d12_48) rfl ?_
    exact cont
  -- pc 49: BucketWindow.restart
  have f10 := (f8.wr W6)
  have f11 := ((F_a_bucket.keep K5 (ninS ne_a_u_t nin0)).other W6 (Or.inr (slot_ne (t := .long) (t' := .long) (Or.inr (hw _ (List.mem_of_getElem? (i := 44) rfl))) (Or.inl (hw _ (List.mem_of_getElem? (i := 83) rfl))) (by decide) (by decide) (by decide))))
  have f12 := ((F_a_window.keep K5 (ninS ne_a_u_t nin0)).other W6 (Or.inr (slot_ne (t := .long) (t' := .long) (Or.inr (hw _ (List.mem_of_getElem? (i := 51) rfl))) (Or.inl (hw _ (List.mem_of_getElem? (i := 83) rfl))) (by decide) (by decide) (by decide))))
  have f13 := ((F_a_totals.keep K5 (ninS ne_a_u_t nin0)).other W6 (Or.inr (slot_ne (t := (.array .long)) (t' := .long) (Or.inr (hw _ (List.mem_of_getElem? (i := 59) rfl))) (Or.inl (hw _ (List.mem_of_getElem? (i := 83) rfl))) (by decide) (by decide) (by decide))))
  have f14 := ((F_a_newest.keep K5 (ninS ne_a_u_t nin0)).other W6 (Or.inr (slot_ne (t := .long) (t' := .long) (Or.inl (hw _ (List.mem_of_getElem? (i := 66) rfl))) (Or.inl (hw _ (List.mem_of_getElem? (i := 83) rfl))) (by decide) (by decide) (by decide))))
  have f15 := ((F_a_newestNumber.keep K5 (ninS ne_a_u_t nin0)).other W6 (Or.inr (slot_ne (t := .long) (t' := .long) (Or.inl (hw _ (List.mem_of_getElem? (i := 113) rfl))) (Or.inl (hw _ (List.mem_of_getElem? (i := 83) rfl))) (by decide) (by decide) (by decide))))
  have f16 := ((F_a_newestSlot.keep K5 (ninS ne_a_u_t nin0)).other W6 (Or.inr (slot_ne (t := .int) (t' := .long) (Or.inl (hw _ (List.mem_of_getElem? (i := 81) rfl))) (Or.inl (hw _ (List.mem_of_getElem? (i := 83) rfl))) (by decide) (by decide) (by decide))))
  have f17 := (fa5_0.other W6 (Ne.symm ne_a_u_t))
  obtain ⟨cc9, ca9, cb9⟩ := f10.cell
  obtain ⟨_, _, ⟨T9, L9, k9, n9⟩, -, X9, ⟨Lc9, hQ9, l9, y9, z9⟩, st9⟩ := X6.privateBack hx (y := (⟨"com/example/eschborn/eschborn/engine/BucketWindow", "restart", "(J)V"⟩ : MethodName)) hown (mvT hZ (hw _ (List.mem_of_getElem? (i := 96) rfl))) (mvT hZ (hw _ (List.mem_of_getElem? (i := 97) rfl))) (own_selP hZ (hw _ (List.mem_of_getElem? (i := 3) rfl)) (hw _ (List.mem_of_getElem? (i := 97) rfl)) (hw _ (List.mem_of_getElem? (i := 98) rfl))) (Cond.privateMethod_at (mvP hZ (hw _ (List.mem_of_getElem? (i := 98) rfl)) (args := #[]))) (mvT hZ (hw _ (List.mem_of_getElem? (i := 99) rfl))) (by decide) (backOf (W := 0) (rm15 l Z a0 hw [] a p1 u_b u_w u_t u_n u_m u_s (0 : Int64) (List.replicate ts.length (0 : Int64)) h6 n0 zp6 f10 f11 f12 f13 f14 f15 f16 fw6 g_a f17 q1 hnz q2 (by rw [List.length_replicate]; exact hlz)) hZ (hw _ (List.mem_of_getElem? (i := 99) rfl)) (hw _ (List.mem_of_getElem? (i := 4) rfl)) (by decide) (by decide)) (g := (mkF m 49 #[.val (.ref a), .val (.long p1), .second, .val (.long (own_pas_r p1 u_b u_w u_n ts)), .second, .unset, .unset] [(.long p1), (.ref a)])) rfl (by rw [hml]; rfl) (Steps.refl _) (a := a) (by rw [e6]; exact ca9) cb9 (argsL := [(.long p1)]) (rest := []) (lenOf own_pd7 rfl) rfl (by show 2 * 0 + _ ≤ _; exact Nat.le_of_eq rfl) (hb hby d12_49) (fun _ _ => ⟨rfl, e6, (by decide : 0 + 0 + 0 + 0 ≤ _), (by decide : 0 + 0 + 0 + 0 ≤ _)⟩)
  dsimp only [Pt.U, Pt.locs, Pt.cells, Pt.slots] at X9 l9 y9 z9 st9 hQ9
  subst l9 y9 z9
  obtain ⟨rfl, N9q, K9, ex9_0, fa9_0, fa9_1, fa9_2, fa9_3, fa9_4, fa9_5, fa9_6⟩ := hQ9
  have N9 := Fr.app N6 N9q
  have kk9 : Keep h0 T9.heap [a, u_t] := kk6.trans K9 (allS (Or.inl (List.mem_of_getElem? (i := 0) rfl)) all0)
  have zp9 : n0 ≤ T9.heap.size := Nat.le_trans Z0 kk9.1
  refine own_go (fun tgt cont => st9.trans cont) ?_
  show own_Go p e below s (Q_rm12_B Z a p1 u_b u_w u_t u_n u_m u_s u_l ts h0 n0) 0 0 (T9.setTop (mkF m 52 #[.val (.ref a), .val (.long p1), .second, .val (.long (own_pas_r p1 u_b u_w u_n ts)), .second, .unset, .unset] []))
  refine own_go (B := T9.setTop (mkF m 139 #[.val (.ref a), .val (.long p1), .second, .val (.long (own_pas_r p1 u_b u_w u_n ts)), .second, .unset, .unset] [])) (fun tgt cont => ?_) ?_
  · refine XS.goto X9.here hx rfl (pc0 := 52) (pc' := 139) rfl (hb hby d12_52) (by decide) (by decide) ?_
    exact cont
  refine own_end X9 (v := none) (fun _ => rfl) hlk ?_ (by decide) (by decide) (fun fs hl => X9.returnOut hx Bd.returns (hb hby d12_139) hl)
  have f18 := (f17.keep K9 (ninS (Ne.symm ne_a_u_t) nin0))
  exact ⟨rfl, N9, kk9, ex9_0, fa9_0, fa9_1, fa9_2, (by unfold own_mvB_newest; exact fa9_3), (by unfold own_mvB_newestNumber; exact fa9_4), (by unfold own_mvB_newestSlot; exact fa9_5), fa9_6, (by unfold own_mvB_ts; exact f18)⟩
def own_adB_newest (p1 : Int64) (u_b : Int64) : Int64 := (own_mvB_newest p1 u_b)
def own_adB_newestNumber (p1 : Int64) (u_b : Int64) : Int64 := (own_mvB_newestNumber p1 u_b)
def own_adB_newestSlot (p1 : Int64) (u_b : Int64) (ts : List Int64) : Int32 := (own_mvB_newestSlot p1 u_b ts)
def own_adB_ts (ts : List Int64) : List Int64 := (own_mvB_ts ts)
def Q_rm8_B (Z : State) (a : Addr) (p1 : Int64) (u_b : Int64) (u_w : Int64) (u_t : Addr) (u_n : Int64) (u_m : Int64) (u_s : Int32) (u_l : Int64) (ts : List Int64) (h0 : Heap) (n0 : Nat) (v : Option Value) (h : Heap) (L : List Loc) : Prop := v = none ∧ Fr n0 L ∧ Keep h0 h [a, u_t] ∧ Exa Z h a "com/example/eschborn/eschborn/engine/BucketWindow" ∧ Fld Z h a "com/example/eschborn/eschborn/engine/BucketWindow" "bucket" "J" (.long u_b) ∧ Fld Z h a "com/example/eschborn/eschborn/engine/BucketWindow" "window" "J" (.long u_w) ∧ Fld Z h a "com/example/eschborn/eschborn/engine/BucketWindow" "totals" "[J" (.ref u_t) ∧ Fld Z h a "com/example/eschborn/eschborn/engine/BucketWindow" "newest" "J" (.long (own_adB_newest p1 u_b)) ∧ Fld Z h a "com/example/eschborn/eschborn/engine/BucketWindow" "newestNumber" "J" (.long (own_adB_newestNumber p1 u_b)) ∧ Fld Z h a "com/example/eschborn/eschborn/engine/BucketWindow" "newestSlot" "I" (.int (own_adB_newestSlot p1 u_b ts)) ∧ Fld Z h a "com/example/eschborn/eschborn/engine/BucketWindow" "load" "J" (.long (0 : Int64)) ∧ own_LA Z h u_t (own_adB_ts ts)
set_option maxRecDepth 65536 in
set_option maxHeartbeats 40000000 in
theorem rm8_B (l : Launch) (Z : State) (a0 : Array Value) (hw : ∀ d ∈ tables_1, d.before a0 Z = true) (ws : List Jvm.Cond) (a : Addr) (p1 : Int64) (u_b : Int64) (u_w : Int64) (u_t : Addr) (u_n : Int64) (u_m : Int64) (u_s : Int32) (u_l : Int64) (ts : List Int64) (h0 : Heap) (n0 : Nat) (Z0 : n0 ≤ h0.size) (E_a : Exa Z h0 a "com/example/eschborn/eschborn/engine/BucketWindow") (F_a_bucket : Fld Z h0 a "com/example/eschborn/eschborn/engine/BucketWindow" "bucket" "J" (.long u_b)) (F_a_window : Fld Z h0 a "com/example/eschborn/eschborn/engine/BucketWindow" "window" "J" (.long u_w)) (F_a_totals : Fld Z h0 a "com/example/eschborn/eschborn/engine/BucketWindow" "totals" "[J" (.ref u_t)) (F_a_newest : Fld Z h0 a "com/example/eschborn/eschborn/engine/BucketWindow" "newest" "J" (.long u_n)) (F_a_newestNumber : Fld Z h0 a "com/example/eschborn/eschborn/engine/BucketWindow" "newestNumber" "J" (.long u_m)) (F_a_newestSlot : Fld Z h0 a "com/example/eschborn/eschborn/engine/BucketWindow" "newestSlot" "I" (.int u_s)) (F_a_load : Fld Z h0 a "com/example/eschborn/eschborn/engine/BucketWindow" "load" "J" (.long u_l)) (g_a : n0 ≤ a) (A_u_t : own_LA Z h0 u_t ts) (g_u_t : n0 ≤ u_t) (hm : ¬ own_cmpU (p1 - u_n) u_b < 0) (q1 : (0 : Int64) < u_b) (hnz : u_b ≠ 0) (q2 : ¬ p1 < ((-9223372036854775808 : Int64) + (own_fm p1 u_b))) (hlz : (Int32.ofNat ts.length).toInt64 ≠ 0) (hl : ¬ u_l = (0 : Int64)) (hk : (own_pas_r p1 u_b u_w u_n ts) = (Int32.ofNat ts.length).toInt64) :
    MetFree l (⟨"com/example/eschborn/eschborn/engine/BucketWindow", "advance", "(J)V"⟩ : MethodName) (head1 (Jvm.Cond.code (⟨"com/example/eschborn/eschborn/engine/BucketWindow", "advance", "(J)V"⟩ : MethodName) prog_1_method_2_code 3 none :: ws) ({ frames := 4, cells := 0, slots := 0, locals := 67 } : Room)) (fun aa U => aa = #[(.ref a), (.long p1)] ∧ Z.Warmed39 U.vm ∧ U.heap = h0) (fun _ _ _ _ _ => True) (fun _ U o U' => ∃ v L, o = .returned v ∧ Q_rm8_B Z a p1 u_b u_w u_t u_n u_m u_s u_l ts h0 n0 v U'.heap L ∧ FrameEnd U o U' L ({ frames := 4, cells := 0, slots := 0, locals := 67 } : Room).cells ({ frames := 4, cells := 0, slots := 0, locals := 67 } : Room).slots) := by
  refine MetFree.of_bodySF (plainFor_of_name own_pn3) hisR ?_
  intro p e s m args below meth c s₁ Bd hml0 hP hK
  obtain ⟨rfl, hZ, hh⟩ := hP
  have hx := Bd.exec
  have hby := Bd.bytes
  have hml : c.maxLocals = 3 := hml0
  have hlk : meth.locks = false := BodyLoose.notSynchronized Bd
  have hown : s.vm.findClass "com/example/eschborn/eschborn/engine/BucketWindow" = some m.cls := findClass_of_methodNamed Bd.named
  have hnm := (name_of_methodNamed Bd.named Bd.method).1
  have X0 : Stand p l e ({ frames := 4, cells := 0, slots := 0, locals := 67 } : Room) s m #[(.ref a), (.long p1)] below meth c s₁ [] 0 0 := Stand.of_body Bd
  have e0 : s₁.heap = h0 := by rw [← hh, Bd.state]; rfl
  have N0 := Fr.nil n0
  show own_Go p e below s (Q_rm8_B Z a p1 u_b u_w u_t u_n u_m u_s u_l ts h0 n0) 0 0 (s₁.setTop (entryFrame m #[(.ref a), (.long p1)] 3))
  refine own_go (B := s₁.setTop (mkF m 0 #[.val (.ref a), .val (.long p1), .second] [])) (fun tgt cont => (XT.entry rfl).trans cont) ?_
  have ne_a_u_t := own_neA E_a (hw _ (List.mem_of_getElem? (i := 3) rfl)) A_u_t.arr
  refine own_go (B := s₁.setTop (mkF m 2 #[.val (.ref a), .val (.long p1), .second] [(.ref a), (.long p1)])) (fun tgt cont => ?_) ?_
  · refine XS.lloadN X0.here hx rfl (hb hby d8_0) rfl ?_
    refine XS.aloadN X0.here hx rfl (hb hby d8_1) rfl rfl ?_
    exact cont
  obtain ⟨T1, X1, e1, st1⟩ := getF X0 hx hZ hown (host := "") (Or.inl (hw _ (List.mem_of_getElem? (i := 65) rfl))) Via.refl e0 F_a_newest (g := (mkF m 2 #[.val (.ref a), .val (.long p1), .second] [(.ref a), (.long p1)])) rfl rfl (hb hby d8_2)
  refine own_go (fun tgt cont => st1 tgt cont) ?_
  show own_Go p e below s (Q_rm8_B Z a p1 u_b u_w u_t u_n u_m u_s u_l ts h0 n0) 0 0 (T1.setTop (mkF m 5 #[.val (.ref a), .val (.long p1), .second] [(.long u_n), (.long p1)]))
  refine own_go (B := T1.setTop (mkF m 7 #[.val (.ref a), .val (.long p1), .second] [(.ref a), (.long (p1 - u_n))])) (fun tgt cont => ?_) ?_
  · refine XS.lsub X1.here hx rfl (hb hby d8_5) rfl ?_
    refine XS.aloadN X1.here hx rfl (hb hby d8_6) rfl rfl ?_
    exact cont
  obtain ⟨T2, X2, e2, st2⟩ := getF X1 hx hZ hown (host := "") (Or.inl (hw _ (List.mem_of_getElem? (i := 43) rfl))) Via.refl e1 F_a_bucket (g := (mkF m 7 #[.val (.ref a), .val (.long p1), .second] [(.ref a), (.long (p1 - u_n))])) rfl rfl (hb hby d8_7)
  refine own_go (fun tgt cont => st2 tgt cont) ?_
  show own_Go p e below s (Q_rm8_B Z a p1 u_b u_w u_t u_n u_m u_s u_l ts h0 n0) 0 0 (T2.setTop (mkF m 10 #[.val (.ref a), .val (.long p1), .second] [(.long u_b), (.long (p1 - u_n))]))
  -- pc 10: Long.compareUnsigned
  obtain ⟨_, _, ⟨T3, L3, k3, n3⟩, -, X3, ⟨Lc3, hQ3, l3, y3, z3⟩, st3⟩ := Jvm.LawKit.callS X2 hx (y := (⟨"java/lang/Long", "compareUnsigned", "(JJ)I"⟩ : MethodName)) hown (mvT hZ (hw _ (List.mem_of_getElem? (i := 67) rfl))) (mvT hZ (hw _ (List.mem_of_getElem? (i := 68) rfl))) (mvT hZ (hw _ (List.mem_of_getElem? (i := 69) rfl))) (mvT hZ (hw _ (List.mem_of_getElem? (i := 70) rfl))) (by decide) (backOf (W := 0) (rm9 l Z a0 hw [] (p1 - u_n) u_b h0 n0 Z0 ) hZ (hw _ (List.mem_of_getElem? (i := 70) rfl)) (hw _ (List.mem_of_getElem? (i := 69) rfl)) (by decide) (by decide)) (g := (mkF m 10 #[.val (.ref a), .val (.long p1), .second] [(.long u_b), (.long (p1 - u_n))])) rfl (by rw [hml]; rfl) (argsL := [(.long (p1 - u_n)), (.long u_b)]) (rest := []) (lenOf own_pd1 rfl) rfl (by show 2 * 0 + _ ≤ _; exact Nat.le_of_eq rfl) (hb hby d8_10) (fun _ _ => ⟨rfl, e2, (by decide : 0 + 0 ≤ _), (by decide : 0 + 0 ≤ _)⟩)
  dsimp only [Pt.U, Pt.locs, Pt.cells, Pt.slots] at X3 l3 y3 z3 st3 hQ3
  subst l3 y3 z3
  obtain ⟨rfl, N3q, e3⟩ := hQ3
  have N3 := Fr.app N0 N3q
  refine own_go (fun tgt cont => st3 tgt cont) ?_
  show own_Go p e below s (Q_rm8_B Z a p1 u_b u_w u_t u_n u_m u_s u_l ts h0 n0) 0 0 (T3.setTop (mkF m 13 #[.val (.ref a), .val (.long p1), .second] [(.int (own_cmpU (p1 - u_n) u_b))]))
  refine own_go (B := T3.setTop (mkF m 18 #[.val (.ref a), .val (.long p1), .second] [(.long p1), (.ref a)])) (fun tgt cont => ?_) ?_
  · refine XS.ifNo X3.here hx rfl (hb hby d8_13) rfl (XT.i0_lt_f hm) ?_
    refine XS.aloadN X3.here hx rfl (hb hby d8_16) rfl rfl ?_
    refine XS.lloadN X3.here hx rfl (hb hby d8_17) rfl ?_
    exact cont
  -- pc 18: BucketWindow.moveOn
  obtain ⟨cc4, ca4, cb4⟩ := E_a.cell
  obtain ⟨_, _, ⟨T4, L4, k4, n4⟩, -, X4, ⟨Lc4, hQ4, l4, y4, z4⟩, st4⟩ := X3.privateBack hx (y := (⟨"com/example/eschborn/eschborn/engine/BucketWindow", "moveOn", "(J)V"⟩ : MethodName)) hown (mvT hZ (hw _ (List.mem_of_getElem? (i := 84) rfl))) (mvT hZ (hw _ (List.mem_of_getElem? (i := 85) rfl))) (own_selP hZ (hw _ (List.mem_of_getElem? (i := 3) rfl)) (hw _ (List.mem_of_getElem? (i := 85) rfl)) (hw _ (List.mem_of_getElem? (i := 86) rfl))) (Cond.privateMethod_at (mvP hZ (hw _ (List.mem_of_getElem? (i := 86) rfl)) (args := #[]))) (mvT hZ (hw _ (List.mem_of_getElem? (i := 87) rfl))) (by decide) (backOf (W := 0) (rm12_B l Z a0 hw [] a p1 u_b u_w u_t u_n u_m u_s u_l ts h0 n0 Z0 E_a F_a_bucket F_a_window F_a_totals F_a_newest F_a_newestNumber F_a_newestSlot F_a_load g_a A_u_t g_u_t q1 hnz q2 hlz hl hk) hZ (hw _ (List.mem_of_getElem? (i := 87) rfl)) (hw _ (List.mem_of_getElem? (i := 4) rfl)) (by decide) (by decide)) (g := (mkF m 18 #[.val (.ref a), .val (.long p1), .second] [(.long p1), (.ref a)])) rfl (by rw [hml]; rfl) (Steps.refl _) (a := a) (by rw [e3]; exact ca4) cb4 (argsL := [(.long p1)]) (rest := []) (lenOf own_pd7 rfl) rfl (by show 2 * 0 + _ ≤ _; exact Nat.le_of_eq rfl) (hb hby d8_18) (fun _ _ => ⟨rfl, e3, (by decide : 0 + 0 + 0 ≤ _), (by decide : 0 + 0 + 0 ≤ _)⟩)
  dsimp only [Pt.U, Pt.locs, Pt.cells, Pt.slots] at X4 l4 y4 z4 st4 hQ4
  subst l4 y4 z4
  obtain ⟨rfl, N4q, K4, ex4_0, fa4_0, fa4_1, fa4_2, fa4_3, fa4_4, fa4_5, fa4_6, fa4_7⟩ := hQ4
  have N4 := Fr.app N3 N4q
  have kk4 : Keep h0 T4.heap [a, u_t] := (Keep.refl h0 [a, u_t]).trans K4 (allS (Or.inl (List.mem_of_getElem? (i := 0) rfl)) (allS (Or.inl (List.mem_of_getElem? (i := 1) rfl)) all0))
  have zp4 : n0 ≤ T4.heap.size := Nat.le_trans Z0 kk4.1
  refine own_go (fun tgt cont => st4.trans cont) ?_
  show own_Go p e below s (Q_rm8_B Z a p1 u_b u_w u_t u_n u_m u_s u_l ts h0 n0) 0 0 (T4.setTop (mkF m 21 #[.val (.ref a), .val (.long p1), .second] []))
  refine own_end X4 (v := none) (fun _ => rfl) hlk ?_ (by decide) (by decide) (fun fs hl => X4.returnOut hx Bd.returns (hb hby d8_21) hl)
  exact ⟨rfl, N4, kk4, ex4_0, fa4_0, fa4_1, fa4_2, (by unfold own_adB_newest; exact fa4_3), (by unfold own_adB_newestNumber; exact fa4_4), (by unfold own_adB_newestSlot; exact fa4_5), fa4_6, (by unfold own_adB_ts; exact fa4_7)⟩
def own_mvC1_newest (u_b : Int64) (u_n : Int64) : Int64 := (u_n + ((1 : Int64) * u_b))
def own_mvC1_newestNumber (u_m : Int64) : Int64 := (u_m + (1 : Int64))
def own_mvC1_newestSlot (u_s : Int32) (ts : List Int64) : Int32 := (own_aft_r u_s ts)
def own_mvC1_load (u_s : Int32) (u_l : Int64) (ts : List Int64) : Int64 := (u_l - (ts.getD (own_aft_r u_s ts).toNatClampNeg 0))
def own_mvC1_ts (u_s : Int32) (ts : List Int64) : List Int64 := (ts.set (own_aft_r u_s ts).toNatClampNeg (0 : Int64))
def Q_rm12_C1 (Z : State) (a : Addr) (p1 : Int64) (u_b : Int64) (u_w : Int64) (u_t : Addr) (u_n : Int64) (u_m : Int64) (u_s : Int32) (u_l : Int64) (ts : List Int64) (h0 : Heap) (n0 : Nat) (v : Option Value) (h : Heap) (L : List Loc) : Prop := v = none ∧ Fr n0 L ∧ Keep h0 h [a, u_t] ∧ Exa Z h a "com/example/eschborn/eschborn/engine/BucketWindow" ∧ Fld Z h a "com/example/eschborn/eschborn/engine/BucketWindow" "bucket" "J" (.long u_b) ∧ Fld Z h a "com/example/eschborn/eschborn/engine/BucketWindow" "window" "J" (.long u_w) ∧ Fld Z h a "com/example/eschborn/eschborn/engine/BucketWindow" "totals" "[J" (.ref u_t) ∧ Fld Z h a "com/example/eschborn/eschborn/engine/BucketWindow" "newest" "J" (.long (own_mvC1_newest u_b u_n)) ∧ Fld Z h a "com/example/eschborn/eschborn/engine/BucketWindow" "newestNumber" "J" (.long (own_mvC1_newestNumber u_m)) ∧ Fld Z h a "com/example/eschborn/eschborn/engine/BucketWindow" "newestSlot" "I" (.int (own_mvC1_newestSlot u_s ts)) ∧ Fld Z h a "com/example/eschborn/eschborn/engine/BucketWindow" "load" "J" (.long (own_mvC1_load u_s u_l ts)) ∧ own_LA Z h u_t (own_mvC1_ts u_s ts)
theorem own_pd9 : parseMethodDescriptor "(I)I" = some ⟨[.int], some .int⟩ := by decide +kernel
theorem d12_55 : decode prog_1_method_3_code 55 = .ok (.lconst 0, 1) := by decide +kernel
theorem d12_56 : decode prog_1_method_3_code 56 = .ok (.lstore 5, 2) := by decide +kernel
theorem d12_58 : decode prog_1_method_3_code 58 = .ok (.lload 5, 2) := by decide +kernel
theorem d12_60 : decode prog_1_method_3_code 60 = .ok (.lload_n 3, 1) := by decide +kernel
theorem d12_61 : decode prog_1_method_3_code 61 = .ok (.lcmp, 1) := by decide +kernel
theorem d12_62 : decode prog_1_method_3_code 62 = .ok (.ifCond .ge 52, 3) := by decide +kernel
theorem d12_65 : decode prog_1_method_3_code 65 = .ok (.aload_n 0, 1) := by decide +kernel
theorem d12_66 : decode prog_1_method_3_code 66 = .ok (.aload_n 0, 1) := by decide +kernel
theorem d12_67 : decode prog_1_method_3_code 67 = .ok (.aload_n 0, 1) := by decide +kernel
theorem d12_68 : decode prog_1_method_3_code 68 = .ok (.getfield 60, 3) := by decide +kernel
theorem d12_71 : decode prog_1_method_3_code 71 = .ok (.invokevirtual 64, 3) := by decide +kernel
theorem d12_74 : decode prog_1_method_3_code 74 = .ok (.putfield 60, 3) := by decide +kernel
theorem d12_77 : decode prog_1_method_3_code 77 = .ok (.aload_n 0, 1) := by decide +kernel
theorem d12_78 : decode prog_1_method_3_code 78 = .ok (.dup, 1) := by decide +kernel
theorem d12_79 : decode prog_1_method_3_code 79 = .ok (.getfield 48, 3) := by decide +kernel
theorem d12_82 : decode prog_1_method_3_code 82 = .ok (.aload_n 0, 1) := by decide +kernel
theorem d12_83 : decode prog_1_method_3_code 83 = .ok (.getfield 27, 3) := by decide +kernel
theorem d12_86 : decode prog_1_method_3_code 86 = .ok (.aload_n 0, 1) := by decide +kernel
theorem d12_87 : decode prog_1_method_3_code 87 = .ok (.getfield 60, 3) := by decide +kernel
theorem d12_90 : decode prog_1_method_3_code 90 = .ok (.laload, 1) := by decide +kernel
theorem d12_91 : decode prog_1_method_3_code 91 = .ok (.lsub, 1) := by decide +kernel
theorem d12_92 : decode prog_1_method_3_code 92 = .ok (.putfield 48, 3) := by decide +kernel
theorem d12_95 : decode prog_1_method_3_code 95 = .ok (.aload_n 0, 1) := by decide +kernel
theorem d12_96 : decode prog_1_method_3_code 96 = .ok (.getfield 27, 3) := by decide +kernel
theorem d12_99 : decode prog_1_method_3_code 99 = .ok (.aload_n 0, 1) := by decide +kernel
theorem d12_100 : decode prog_1_method_3_code 100 = .ok (.getfield 60, 3) := by decide +kernel
theorem d12_103 : decode prog_1_method_3_code 103 = .ok (.lconst 0, 1) := by decide +kernel
theorem d12_104 : decode prog_1_method_3_code 104 = .ok (.lastore, 1) := by decide +kernel
theorem d12_105 : decode prog_1_method_3_code 105 = .ok (.lload 5, 2) := by decide +kernel
theorem d12_107 : decode prog_1_method_3_code 107 = .ok (.lconst 1, 1) := by decide +kernel
theorem d12_108 : decode prog_1_method_3_code 108 = .ok (.ladd, 1) := by decide +kernel
theorem d12_109 : decode prog_1_method_3_code 109 = .ok (.lstore 5, 2) := by decide +kernel
theorem d12_111 : decode prog_1_method_3_code 111 = .ok (.goto (-53), 3) := by decide +kernel
theorem d12_114 : decode prog_1_method_3_code 114 = .ok (.aload_n 0, 1) := by decide +kernel
theorem d12_115 : decode prog_1_method_3_code 115 = .ok (.dup, 1) := by decide +kernel
theorem d12_116 : decode prog_1_method_3_code 116 = .ok (.getfield 31, 3) := by decide +kernel
theorem d12_119 : decode prog_1_method_3_code 119 = .ok (.lload_n 3, 1) := by decide +kernel
theorem d12_120 : decode prog_1_method_3_code 120 = .ok (.aload_n 0, 1) := by decide +kernel
theorem d12_121 : decode prog_1_method_3_code 121 = .ok (.getfield 13, 3) := by decide +kernel
theorem d12_124 : decode prog_1_method_3_code 124 = .ok (.lmul, 1) := by decide +kernel
theorem d12_125 : decode prog_1_method_3_code 125 = .ok (.ladd, 1) := by decide +kernel
theorem d12_126 : decode prog_1_method_3_code 126 = .ok (.putfield 31, 3) := by decide +kernel
theorem d12_129 : decode prog_1_method_3_code 129 = .ok (.aload_n 0, 1) := by decide +kernel
theorem d12_130 : decode prog_1_method_3_code 130 = .ok (.dup, 1) := by decide +kernel
theorem d12_131 : decode prog_1_method_3_code 131 = .ok (.getfield 68, 3) := by decide +kernel
theorem d12_134 : decode prog_1_method_3_code 134 = .ok (.lload_n 3, 1) := by decide +kernel
theorem d12_135 : decode prog_1_method_3_code 135 = .ok (.ladd, 1) := by decide +kernel
theorem d12_136 : decode prog_1_method_3_code 136 = .ok (.putfield 68, 3) := by decide +kernel
set_option maxRecDepth 65536 in
set_option maxHeartbeats 40000000 in
theorem rm12_C1 (l : Launch) (Z : State) (a0 : Array Value) (hw : ∀ d ∈ tables_1, d.before a0 Z = true) (ws : List Jvm.Cond) (a : Addr) (p1 : Int64) (u_b : Int64) (u_w : Int64) (u_t : Addr) (u_n : Int64) (u_m : Int64) (u_s : Int32) (u_l : Int64) (ts : List Int64) (h0 : Heap) (n0 : Nat) (Z0 : n0 ≤ h0.size) (E_a : Exa Z h0 a "com/example/eschborn/eschborn/engine/BucketWindow") (F_a_bucket : Fld Z h0 a "com/example/eschborn/eschborn/engine/BucketWindow" "bucket" "J" (.long u_b)) (F_a_window : Fld Z h0 a "com/example/eschborn/eschborn/engine/BucketWindow" "window" "J" (.long u_w)) (F_a_totals : Fld Z h0 a "com/example/eschborn/eschborn/engine/BucketWindow" "totals" "[J" (.ref u_t)) (F_a_newest : Fld Z h0 a "com/example/eschborn/eschborn/engine/BucketWindow" "newest" "J" (.long u_n)) (F_a_newestNumber : Fld Z h0 a "com/example/eschborn/eschborn/engine/BucketWindow" "newestNumber" "J" (.long u_m)) (F_a_newestSlot : Fld Z h0 a "com/example/eschborn/eschborn/engine/BucketWindow" "newestSlot" "I" (.int u_s)) (F_a_load : Fld Z h0 a "com/example/eschborn/eschborn/engine/BucketWindow" "load" "J" (.long u_l)) (g_a : n0 ≤ a) (A_u_t : own_LA Z h0 u_t ts) (g_u_t : n0 ≤ u_t) (hnz : u_b ≠ 0) (hl : ¬ u_l = (0 : Int64)) (hk : (own_pas_r p1 u_b u_w u_n ts) = (1 : Int64)) (hn : ¬ (1 : Int64) = (Int32.ofNat ts.length).toInt64) (hs : ¬ u_s < 0 ∧ u_s.toNatClampNeg < ts.length) :
    MetFree l (⟨"com/example/eschborn/eschborn/engine/BucketWindow", "moveOn", "(J)V"⟩ : MethodName) (head1 (Jvm.Cond.code (⟨"com/example/eschborn/eschborn/engine/BucketWindow", "moveOn", "(J)V"⟩ : MethodName) prog_1_method_3_code 7 none :: ws) ({ frames := 3, cells := 0, slots := 0, locals := 48 } : Room)) (fun aa U => aa = #[(.ref a), (.long p1)] ∧ Z.Warmed39 U.vm ∧ U.heap = h0) (fun _ _ _ _ _ => True) (fun _ U o U' => ∃ v L, o = .returned v ∧ Q_rm12_C1 Z a p1 u_b u_w u_t u_n u_m u_s u_l ts h0 n0 v U'.heap L ∧ FrameEnd U o U' L ({ frames := 3, cells := 0, slots := 0, locals := 48 } : Room).cells ({ frames := 3, cells := 0, slots := 0, locals := 48 } : Room).slots) := by
  refine MetFree.of_bodySF (plainFor_of_name own_pn3) hisR ?_
  intro p e s m args below meth c s₁ Bd hml0 hP hK
  obtain ⟨rfl, hZ, hh⟩ := hP
  have hx := Bd.exec
  have hby := Bd.bytes
  have hml : c.maxLocals = 7 := hml0
  have hlk : meth.locks = false := BodyLoose.notSynchronized Bd
  have hown : s.vm.findClass "com/example/eschborn/eschborn/engine/BucketWindow" = some m.cls := findClass_of_methodNamed Bd.named
  have hnm := (name_of_methodNamed Bd.named Bd.method).1
  have X0 : Stand p l e ({ frames := 3, cells := 0, slots := 0, locals := 48 } : Room) s m #[(.ref a), (.long p1)] below meth c s₁ [] 0 0 := Stand.of_body Bd
  have e0 : s₁.heap = h0 := by rw [← hh, Bd.state]; rfl
  have N0 := Fr.nil n0
  show own_Go p e below s (Q_rm12_C1 Z a p1 u_b u_w u_t u_n u_m u_s u_l ts h0 n0) 0 0 (s₁.setTop (entryFrame m #[(.ref a), (.long p1)] 7))
  refine own_go (B := s₁.setTop (mkF m 0 #[.val (.ref a), .val (.long p1), .second, .unset, .unset, .unset, .unset] [])) (fun tgt cont => (XT.entry rfl).trans cont) ?_
  have ne_a_u_t := own_neA E_a (hw _ (List.mem_of_getElem? (i := 3) rfl)) A_u_t.arr
  refine own_go (B := s₁.setTop (mkF m 2 #[.val (.ref a), .val (.long p1), .second, .unset, .unset, .unset, .unset] [(.long p1), (.ref a)])) (fun tgt cont => ?_) ?_
  · refine XS.aloadN X0.here hx rfl (hb hby d12_0) rfl rfl ?_
    refine XS.lloadN X0.here hx rfl (hb hby d12_1) rfl ?_
    exact cont
  -- pc 2: BucketWindow.passed
  obtain ⟨cc1, ca1, cb1⟩ := E_a.cell
  obtain ⟨_, _, ⟨T1, L1, k1, n1⟩, -, X1, ⟨Lc1, hQ1, l1, y1, z1⟩, st1⟩ := X0.privateBack hx (y := (⟨"com/example/eschborn/eschborn/engine/BucketWindow", "passed", "(J)J"⟩ : MethodName)) hown (mvT hZ (hw _ (List.mem_of_getElem? (i := 88) rfl))) (mvT hZ (hw _ (List.mem_of_getElem? (i := 89) rfl))) (own_selP hZ (hw _ (List.mem_of_getElem? (i := 3) rfl)) (hw _ (List.mem_of_getElem? (i := 89) rfl)) (hw _ (List.mem_of_getElem? (i := 90) rfl))) (Cond.privateMethod_at (mvP hZ (hw _ (List.mem_of_getElem? (i := 90) rfl)) (args := #[]))) (mvT hZ (hw _ (List.mem_of_getElem? (i := 91) rfl))) (by decide) (backOf (W := 0) (rm13 l Z a0 hw [] a p1 u_b u_w u_t u_n ts h0 n0 Z0 E_a F_a_bucket F_a_window F_a_totals F_a_newest A_u_t hnz) hZ (hw _ (List.mem_of_getElem? (i := 91) rfl)) (hw _ (List.mem_of_getElem? (i := 4) rfl)) (by decide) (by decide)) (g := (mkF m 2 #[.val (.ref a), .val (.long p1), .second, .unset, .unset, .unset, .unset] [(.long p1), (.ref a)])) rfl (by rw [hml]; rfl) (Steps.refl _) (a := a) (by rw [e0]; exact ca1) cb1 (argsL := [(.long p1)]) (rest := []) (lenOf own_pd6 rfl) rfl (by show 2 * 0 + _ ≤ _; exact Nat.le_of_eq rfl) (hb hby d12_2) (fun _ _ => ⟨rfl, e0, (by decide : 0 + 0 ≤ _), (by decide : 0 + 0 ≤ _)⟩)
  dsimp only [Pt.U, Pt.locs, Pt.cells, Pt.slots] at X1 l1 y1 z1 st1 hQ1
  subst l1 y1 z1
  obtain ⟨rfl, N1q, e1⟩ := hQ1
  have N1 := Fr.app N0 N1q
  refine own_go (fun tgt cont => st1.trans cont) ?_
  show own_Go p e below s (Q_rm12_C1 Z a p1 u_b u_w u_t u_n u_m u_s u_l ts h0 n0) 0 0 (T1.setTop (mkF m 5 #[.val (.ref a), .val (.long p1), .second, .unset, .unset, .unset, .unset] [(.long (own_pas_r p1 u_b u_w u_n ts))]))
  rw [hk]
  refine own_go (B := T1.setTop (mkF m 7 #[.val (.ref a), .val (.long p1), .second, .val (.long (1 : Int64)), .second, .unset, .unset] [(.ref a)])) (fun tgt cont => ?_) ?_
  · refine XS.lstoreN X1.here hx rfl (hb hby d12_5) rfl (l' := #[.val (.ref a), .val (.long p1), .second, .val (.long (1 : Int64)), .second, .unset, .unset]) rfl ?_
    refine XS.aloadN X1.here hx rfl (hb hby d12_6) rfl rfl ?_
    exact cont
  obtain ⟨T2, X2, e2, st2⟩ := getF X1 hx hZ hown (host := "") (Or.inl (hw _ (List.mem_of_getElem? (i := 82) rfl))) Via.refl e1 F_a_load (g := (mkF m 7 #[.val (.ref a), .val (.long p1), .second, .val (.long (1 : Int64)), .second, .unset, .unset] [(.ref a)])) rfl rfl (hb hby d12_7)
  refine own_go (fun tgt cont => st2 tgt cont) ?_
  show own_Go p e below s (Q_rm12_C1 Z a p1 u_b u_w u_t u_n u_m u_s u_l ts h0 n0) 0 0 (T2.setTop (mkF m 10 #[.val (.ref a), .val (.long p1), .second, .val (.long (1 : Int64)), .second, .unset, .unset] [(.long u_l)]))
  refine own_go (B := T2.setTop (mkF m 25 #[.val (.ref a), .val (.long p1), .second, .val (.long (1 : Int64)), .second, .unset, .unset] [(.ref a), (.long (1 : Int64))])) (fun tgt cont => ?_) ?_
  · refine XT.lconstV X2.here hx rfl (0 : Int64) (hb hby d12_10) rfl ?_
    refine XT.lcmp X2.here hx rfl (hb hby d12_11) rfl ?_
    refine XS.ifYes X2.here hx rfl (pc0 := 12) (pc' := 23) rfl (hb hby d12_12) rfl (XT.ll_ne_t hl) (by decide) (by decide) ?_
    refine XS.lloadN X2.here hx rfl (hb hby d12_23) rfl ?_
    refine XS.aloadN X2.here hx rfl (hb hby d12_24) rfl rfl ?_
    exact cont
  obtain ⟨T3, X3, e3, st3⟩ := getF X2 hx hZ hown (host := "") (Or.inl (hw _ (List.mem_of_getElem? (i := 58) rfl))) Via.refl e2 F_a_totals (g := (mkF m 25 #[.val (.ref a), .val (.long p1), .second, .val (.long (1 : Int64)), .second, .unset, .unset] [(.ref a), (.long (1 : Int64))])) rfl rfl (hb hby d12_25)
  refine own_go (fun tgt cont => st3 tgt cont) ?_
  show own_Go p e below s (Q_rm12_C1 Z a p1 u_b u_w u_t u_n u_m u_s u_l ts h0 n0) 0 0 (T3.setTop (mkF m 28 #[.val (.ref a), .val (.long p1), .second, .val (.long (1 : Int64)), .second, .unset, .unset] [(.ref u_t), (.long (1 : Int64))]))
  refine own_go (B := T3.setTop (mkF m 66 #[.val (.ref a), .val (.long p1), .second, .val (.long (1 : Int64)), .second, .val (.long (0 : Int64)), .second] [(.ref a)])) (fun tgt cont => ?_) ?_
  · refine own_lenLA X3 hx hZ e3 A_u_t (g := (mkF m 28 #[.val (.ref a), .val (.long p1), .second, .val (.long (1 : Int64)), .second, .unset, .unset] [(.ref u_t), (.long (1 : Int64))])) rfl rfl (hb hby d12_28) ?_
    refine XS.i2l X3.here hx rfl (hb hby d12_29) rfl ?_
    refine XT.lcmp X3.here hx rfl (hb hby d12_30) rfl ?_
    refine XS.ifYes X3.here hx rfl (pc0 := 31) (pc' := 55) rfl (hb hby d12_31) rfl (XT.ll_ne_t hn) (by decide) (by decide) ?_
    refine XT.lconstV X3.here hx rfl (0 : Int64) (hb hby d12_55) rfl ?_
    refine XS.lstore X3.here hx rfl (hb hby d12_56) rfl (l' := #[.val (.ref a), .val (.long p1), .second, .val (.long (1 : Int64)), .second, .val (.long (0 : Int64)), .second]) rfl ?_
    refine XS.lload X3.here hx rfl (hb hby d12_58) rfl ?_
    refine XS.lloadN X3.here hx rfl (hb hby d12_60) rfl ?_
    refine XT.lcmp X3.here hx rfl (hb hby d12_61) rfl ?_
    refine XS.ifNo X3.here hx rfl (hb hby d12_62) rfl (XT.ll_ge_f (by decide)) ?_
    refine XS.aloadN X3.here hx rfl (hb hby d12_65) rfl rfl ?_
    exact cont
  refine own_go (B := T3.setTop (mkF m 68 #[.val (.ref a), .val (.long p1), .second, .val (.long (1 : Int64)), .second, .val (.long (0 : Int64)), .second] [(.ref a), (.ref a), (.ref a)])) (fun tgt cont => ?_) ?_
  · refine XS.aloadN X3.here hx rfl (hb hby d12_66) rfl rfl ?_
    refine XS.aloadN X3.here hx rfl (hb hby d12_67) rfl rfl ?_
    exact cont
  obtain ⟨T4, X4, e4, st4⟩ := getF X3 hx hZ hown (host := "") (Or.inl (hw _ (List.mem_of_getElem? (i := 80) rfl))) Via.refl e3 F_a_newestSlot (g := (mkF m 68 #[.val (.ref a), .val (.long p1), .second, .val (.long (1 : Int64)), .second, .val (.long (0 : Int64)), .second] [(.ref a), (.ref a), (.ref a)])) rfl rfl (hb hby d12_68)
  refine own_go (fun tgt cont => st4 tgt cont) ?_
  show own_Go p e below s (Q_rm12_C1 Z a p1 u_b u_w u_t u_n u_m u_s u_l ts h0 n0) 0 0 (T4.setTop (mkF m 71 #[.val (.ref a), .val (.long p1), .second, .val (.long (1 : Int64)), .second, .val (.long (0 : Int64)), .second] [(.int u_s), (.ref a), (.ref a)]))
  -- pc 71: BucketWindow.after
  obtain ⟨cc5, ca5, cb5⟩ := E_a.cell
  obtain ⟨_, _, ⟨T5, L5, k5, n5⟩, -, X5, ⟨Lc5, hQ5, l5, y5, z5⟩, st5⟩ := X4.privateBack hx (y := (⟨"com/example/eschborn/eschborn/engine/BucketWindow", "after", "(I)I"⟩ : MethodName)) hown (mvT hZ (hw _ (List.mem_of_getElem? (i := 123) rfl))) (mvT hZ (hw _ (List.mem_of_getElem? (i := 124) rfl))) (own_selP hZ (hw _ (List.mem_of_getElem? (i := 3) rfl)) (hw _ (List.mem_of_getElem? (i := 124) rfl)) (hw _ (List.mem_of_getElem? (i := 125) rfl))) (Cond.privateMethod_at (mvP hZ (hw _ (List.mem_of_getElem? (i := 125) rfl)) (args := #[]))) (mvT hZ (hw _ (List.mem_of_getElem? (i := 126) rfl))) (by decide) (backOf (W := 1) (rm21 l Z a0 hw [] a u_s u_t ts h0 n0 Z0 E_a F_a_totals A_u_t) hZ (hw _ (List.mem_of_getElem? (i := 126) rfl)) (hw _ (List.mem_of_getElem? (i := 4) rfl)) (by decide) (by decide)) (g := (mkF m 71 #[.val (.ref a), .val (.long p1), .second, .val (.long (1 : Int64)), .second, .val (.long (0 : Int64)), .second] [(.int u_s), (.ref a), (.ref a)])) rfl (by rw [hml]; rfl) (Steps.refl _) (a := a) (by rw [e4]; exact ca5) cb5 (argsL := [(.int u_s)]) (rest := [(.ref a)]) (lenOf own_pd9 rfl) rfl (by show 2 * 0 + _ ≤ _; exact Nat.le_of_eq rfl) (hb hby d12_71) (fun _ _ => ⟨rfl, e4, (by decide : 0 + 0 + 0 ≤ _), (by decide : 0 + 0 + 0 ≤ _)⟩)
  dsimp only [Pt.U, Pt.locs, Pt.cells, Pt.slots] at X5 l5 y5 z5 st5 hQ5
  subst l5 y5 z5
  obtain ⟨rfl, N5q, e5⟩ := hQ5
  have N5 := Fr.app N1 N5q
  refine own_go (fun tgt cont => st5.trans cont) ?_
  show own_Go p e below s (Q_rm12_C1 Z a p1 u_b u_w u_t u_n u_m u_s u_l ts h0 n0) 0 0 (T5.setTop (mkF m 74 #[.val (.ref a), .val (.long p1), .second, .val (.long (1 : Int64)), .second, .val (.long (0 : Int64)), .second] [(.int (own_aft_r u_s ts)), (.ref a)]))
  obtain ⟨T6, h6, X6, e6, W6, st6⟩ := putF X5 hx hZ hown (host := "") (Or.inl (hw _ (List.mem_of_getElem? (i := 80) rfl))) Via.refl e5 F_a_newestSlot E_a (Or.inl (hw _ (List.mem_of_getElem? (i := 81) rfl))) (hw _ (List.mem_of_getElem? (i := 3) rfl)) (ty := .int) (by decide) rfl rfl (g := (mkF m 74 #[.val (.ref a), .val (.long p1), .second, .val (.long (1 : Int64)), .second, .val (.long (0 : Int64)), .second] [(.int (own_aft_r u_s ts)), (.ref a)])) rfl rfl (hb hby d12_74)
  have fw6 := F_a_newestSlot.same W6
  have N6 := Fr.snoc X6 N5 g_a
  have kk6 : Keep h0 h6 [a, u_t] := (Keep.refl h0 [a, u_t]).wr W6 (Or.inl (List.mem_of_getElem? (i := 0) rfl))
  have zp6 : n0 ≤ h6.size := Nat.le_trans Z0 kk6.1
  refine own_go (fun tgt cont => st6 tgt cont) ?_
  show own_Go p e below s (Q_rm12_C1 Z a p1 u_b u_w u_t u_n u_m u_s u_l ts h0 n0) 0 0 (T6.setTop (mkF m 77 #[.val (.ref a), .val (.long p1), .second, .val (.long (1 : Int64)), .second, .val (.long (0 : Int64)), .second] []))
  refine own_go (B := T6.setTop (mkF m 79 #[.val (.ref a), .val (.long p1), .second, .val (.long (1 : Int64)), .second, .val (.long (0 : Int64)), .second] [(.ref a), (.ref a)])) (fun tgt cont => ?_) ?_
  · refine XS.aloadN X6.here hx rfl (hb hby d12_77) rfl rfl ?_
    refine XS.dup X6.here hx rfl (hb hby d12_78) rfl rfl ?_
    exact cont
  have f8 := (F_a_load.other W6 (Or.inr (slot_ne (t := .long) (t' := .int) (Or.inl (hw _ (List.mem_of_getElem? (i := 83) rfl))) (Or.inl (hw _ (List.mem_of_getElem? (i := 81) rfl))) (by decide) (by decide) (by decide))))
  obtain ⟨T7, X7, e7, st7⟩ := getF X6 hx hZ hown (host := "") (Or.inl (hw _ (List.mem_of_getElem? (i := 82) rfl))) Via.refl e6 f8 (g := (mkF m 79 #[.val (.ref a), .val (.long p1), .second, .val (.long (1 : Int64)), .second, .val (.long (0 : Int64)), .second] [(.ref a), (.ref a)])) rfl rfl (hb hby d12_79)
  refine own_go (fun tgt cont => st7 tgt cont) ?_
  show own_Go p e below s (Q_rm12_C1 Z a p1 u_b u_w u_t u_n u_m u_s u_l ts h0 n0) 0 0 (T7.setTop (mkF m 82 #[.val (.ref a), .val (.long p1), .second, .val (.long (1 : Int64)), .second, .val (.long (0 : Int64)), .second] [(.long u_l), (.ref a)]))
  refine own_go (B := T7.setTop (mkF m 83 #[.val (.ref a), .val (.long p1), .second, .val (.long (1 : Int64)), .second, .val (.long (0 : Int64)), .second] [(.ref a), (.long u_l), (.ref a)])) (fun tgt cont => ?_) ?_
  · refine XS.aloadN X7.here hx rfl (hb hby d12_82) rfl rfl ?_
    exact cont
  have f10 := (F_a_totals.other W6 (Or.inr (slot_ne (t := (.array .long)) (t' := .int) (Or.inr (hw _ (List.mem_of_getElem? (i := 59) rfl))) (Or.inl (hw _ (List.mem_of_getElem? (i := 81) rfl))) (by decide) (by decide) (by decide))))
  obtain ⟨T9, X9, e9, st9⟩ := getF X7 hx hZ hown (host := "") (Or.inl (hw _ (List.mem_of_getElem? (i := 58) rfl))) Via.refl e7 f10 (g := (mkF m 83 #[.val (.ref a), .val (.long p1), .second, .val (.long (1 : Int64)), .second, .val (.long (0 : Int64)), .second] [(.ref a), (.long u_l), (.ref a)])) rfl rfl (hb hby d12_83)
  refine own_go (fun tgt cont => st9 tgt cont) ?_
  show own_Go p e below s (Q_rm12_C1 Z a p1 u_b u_w u_t u_n u_m u_s u_l ts h0 n0) 0 0 (T9.setTop (mkF m 86 #[.val (.ref a), .val (.long p1), .second, .val (.long (1 : Int64)), .second, .val (.long (0 : Int64)), .second] [(.ref u_t), (.long u_l), (.ref a)]))
  refine own_go (B := T9.setTop (mkF m 87 #[.val (.ref a), .val (.long p1), .second, .val (.long (1 : Int64)), .second, .val (.long (0 : Int64)), .second] [(.ref a), (.ref u_t), (.long u_l), (.ref a)])) (fun tgt cont => ?_) ?_
  · refine XS.aloadN X9.here hx rfl (hb hby d12_86) rfl rfl ?_
    exact cont
  obtain ⟨T11, X11, e11, st11⟩ := getF X9 hx hZ hown (host := "") (Or.inl (hw _ (List.mem_of_getElem? (i := 80) rfl))) Via.refl e9 fw6 (g := (mkF m 87 #[.val (.ref a), .val (.long p1), .second, .val (.long (1 : Int64)), .second, .val (.long (0 : Int64)), .second] [(.ref a), (.ref u_t), (.long u_l), (.ref a)])) rfl rfl (hb hby d12_87)
  refine own_go (fun tgt cont => st11 tgt cont) ?_
  show own_Go p e below s (Q_rm12_C1 Z a p1 u_b u_w u_t u_n u_m u_s u_l ts h0 n0) 0 0 (T11.setTop (mkF m 90 #[.val (.ref a), .val (.long p1), .second, .val (.long (1 : Int64)), .second, .val (.long (0 : Int64)), .second] [(.int (own_aft_r u_s ts)), (.ref u_t), (.long u_l), (.ref a)]))
  have f12 := (A_u_t.other W6 (Ne.symm ne_a_u_t))
  refine own_go (B := T11.setTop (mkF m 92 #[.val (.ref a), .val (.long p1), .second, .val (.long (1 : Int64)), .second, .val (.long (0 : Int64)), .second] [(.long (u_l - (ts.getD (own_aft_r u_s ts).toNatClampNeg 0))), (.ref a)])) (fun tgt cont => ?_) ?_
  · refine own_ldLA X11 hx hZ e11 f12 (j := (own_aft_r u_s ts)) (own_aftB hs A_u_t.small) (g := (mkF m 90 #[.val (.ref a), .val (.long p1), .second, .val (.long (1 : Int64)), .second, .val (.long (0 : Int64)), .second] [(.int (own_aft_r u_s ts)), (.ref u_t), (.long u_l), (.ref a)])) rfl rfl (hb hby d12_90) ?_
    refine XS.lsub X11.here hx rfl (hb hby d12_91) rfl ?_
    exact cont
  have f14 := (E_a.wr W6)
  obtain ⟨T13, h13, X13, e13, W13, st13⟩ := putF X11 hx hZ hown (host := "") (Or.inl (hw _ (List.mem_of_getElem? (i := 82) rfl))) Via.refl e11 f8 f14 (Or.inl (hw _ (List.mem_of_getElem? (i := 83) rfl))) (hw _ (List.mem_of_getElem? (i := 3) rfl)) (ty := .long) (by decide) rfl rfl (g := (mkF m 92 #[.val (.ref a), .val (.long p1), .second, .val (.long (1 : Int64)), .second, .val (.long (0 : Int64)), .second] [(.long (u_l - (ts.getD (own_aft_r u_s ts).toNatClampNeg 0))), (.ref a)])) rfl rfl (hb hby d12_92)
  have fw13 := f8.same W13
  have N13 := Fr.snoc X13 N6 g_a
  have kk13 : Keep h0 h13 [a, u_t] := kk6.wr W13 (Or.inl (List.mem_of_getElem? (i := 0) rfl))
  have zp13 : n0 ≤ h13.size := Nat.le_trans Z0 kk13.1
  refine own_go (fun tgt cont => st13 tgt cont) ?_
  show own_Go p e below s (Q_rm12_C1 Z a p1 u_b u_w u_t u_n u_m u_s u_l ts h0 n0) 0 0 (T13.setTop (mkF m 95 #[.val (.ref a), .val (.long p1), .second, .val (.long (1 : Int64)), .second, .val (.long (0 : Int64)), .second] []))
  refine own_go (B := T13.setTop (mkF m 96 #[.val (.ref a), .val (.long p1), .second, .val (.long (1 : Int64)), .second, .val (.long (0 : Int64)), .second] [(.ref a)])) (fun tgt cont => ?_) ?_
  · refine XS.aloadN X13.here hx rfl (hb hby d12_95) rfl rfl ?_
    exact cont
  have f16 := (f10.other W13 (Or.inr (slot_ne (t := (.array .long)) (t' := .long) (Or.inr (hw _ (List.mem_of_getElem? (i := 59) rfl))) (Or.inl (hw _ (List.mem_of_getElem? (i := 83) rfl))) (by decide) (by decide) (by decide))))
  obtain ⟨T15, X15, e15, st15⟩ := getF X13 hx hZ hown (host := "") (Or.inl (hw _ (List.mem_of_getElem? (i := 58) rfl))) Via.refl e13 f16 (g := (mkF m 96 #[.val (.ref a), .val (.long p1), .second, .val (.long (1 : Int64)), .second, .val (.long (0 : Int64)), .second] [(.ref a)])) rfl rfl (hb hby d12_96)
  refine own_go (fun tgt cont => st15 tgt cont) ?_
  show own_Go p e below s (Q_rm12_C1 Z a p1 u_b u_w u_t u_n u_m u_s u_l ts h0 n0) 0 0 (T15.setTop (mkF m 99 #[.val (.ref a), .val (.long p1), .second, .val (.long (1 : Int64)), .second, .val (.long (0 : Int64)), .second] [(.ref u_t)]))
  refine own_go (B := T15.setTop (mkF m 100 #[.val (.ref a), .val (.long p1), .second, .val (.long (1 : Int64)), .second, .val (.long (0 : Int64)), .second] [(.ref a), (.ref u_t)])) (fun tgt cont => ?_) ?_
  · refine XS.aloadN X15.here hx rfl (hb hby d12_99) rfl rfl ?_
    exact cont
  have f18 := (fw6.other W13 (Or.inr (slot_ne (t := .int) (t' := .long) (Or.inl (hw _ (List.mem_of_getElem? (i := 81) rfl))) (Or.inl (hw _ (List.mem_of_getElem? (i := 83) rfl))) (by decide) (by decide) (by decide))))
  obtain ⟨T17, X17, e17, st17⟩ := getF X15 hx hZ hown (host := "") (Or.inl (hw _ (List.mem_of_getElem? (i := 80) rfl))) Via.refl e15 f18 (g := (mkF m 100 #[.val (.ref a), .val (.long p1), .second, .val (.long (1 : Int64)), .second, .val (.long (0 : Int64)), .second] [(.ref a), (.ref u_t)])) rfl rfl (hb hby d12_100)
  refine own_go (fun tgt cont => st17 tgt cont) ?_
  show own_Go p e below s (Q_rm12_C1 Z a p1 u_b u_w u_t u_n u_m u_s u_l ts h0 n0) 0 0 (T17.setTop (mkF m 103 #[.val (.ref a), .val (.long p1), .second, .val (.long (1 : Int64)), .second, .val (.long (0 : Int64)), .second] [(.int (own_aft_r u_s ts)), (.ref u_t)]))
  refine own_go (B := T17.setTop (mkF m 104 #[.val (.ref a), .val (.long p1), .second, .val (.long (1 : Int64)), .second, .val (.long (0 : Int64)), .second] [(.long (0 : Int64)), (.int (own_aft_r u_s ts)), (.ref u_t)])) (fun tgt cont => ?_) ?_
  · refine XT.lconstV X17.here hx rfl (0 : Int64) (hb hby d12_103) rfl ?_
    exact cont
  have f19 := (f12.other W13 (Ne.symm ne_a_u_t))
  obtain ⟨T20, h20, X20, e20, W20, A20, st20⟩ := own_stLA X17 hx hZ e17 f19 (j := (own_aft_r u_s ts)) (x := (0 : Int64)) (own_aftB hs A_u_t.small) (g := (mkF m 104 #[.val (.ref a), .val (.long p1), .second, .val (.long (1 : Int64)), .second, .val (.long (0 : Int64)), .second] [(.long (0 : Int64)), (.int (own_aft_r u_s ts)), (.ref u_t)])) rfl rfl (hb hby d12_104)
  have N20 := Fr.snoc X20 N13 g_u_t
  have kk20 : Keep h0 h20 [a, u_t] := kk13.wr W20 (Or.inl (List.mem_of_getElem? (i := 1) rfl))
  have zp20 : n0 ≤ h20.size := Nat.le_trans Z0 kk20.1
  refine own_go (fun tgt cont => st20 tgt cont) ?_
  show own_Go p e below s (Q_rm12_C1 Z a p1 u_b u_w u_t u_n u_m u_s u_l ts h0 n0) 0 0 (T20.setTop (mkF m 105 #[.val (.ref a), .val (.long p1), .second, .val (.long (1 : Int64)), .second, .val (.long (0 : Int64)), .second] []))
  refine own_go (B := T20.setTop (mkF m 115 #[.val (.ref a), .val (.long p1), .second, .val (.long (1 : Int64)), .second, .val (.long (1 : Int64)), .second] [(.ref a)])) (fun tgt cont => ?_) ?_
  · refine XS.lload X20.here hx rfl (hb hby d12_105) rfl ?_
    refine XT.lconstV X20.here hx rfl (1 : Int64) (hb hby d12_107) rfl ?_
    refine XS.ladd X20.here hx rfl (hb hby d12_108) rfl ?_
    refine XS.lstore X20.here hx rfl (hb hby d12_109) rfl (l' := #[.val (.ref a), .val (.long p1), .second, .val (.long (1 : Int64)), .second, .val (.long (1 : Int64)), .second]) rfl ?_
    refine XS.goto X20.here hx rfl (pc0 := 111) (pc' := 58) rfl (hb hby d12_111) (by decide) (by decide) ?_
    refine XS.lload X20.here hx rfl (hb hby d12_58) rfl ?_
    refine XS.lloadN X20.here hx rfl (hb hby d12_60) rfl ?_
    refine XT.lcmp X20.here hx rfl (hb hby d12_61) rfl ?_
    refine XS.ifYes X20.here hx rfl (pc0 := 62) (pc' := 114) rfl (hb hby d12_62) rfl (XT.ll_ge_t (by decide)) (by decide) (by decide) ?_
    refine XS.aloadN X20.here hx rfl (hb hby d12_114) rfl rfl ?_
    exact cont
  refine own_go (B := T20.setTop (mkF m 116 #[.val (.ref a), .val (.long p1), .second, .val (.long (1 : Int64)), .second, .val (.long (1 : Int64)), .second] [(.ref a), (.ref a)])) (fun tgt cont => ?_) ?_
  · refine XS.dup X20.here hx rfl (hb hby d12_115) rfl rfl ?_
    exact cont
  have f22 := (((F_a_newest.other W6 (Or.inr (slot_ne (t := .long) (t' := .int) (Or.inl (hw _ (List.mem_of_getElem? (i := 66) rfl))) (Or.inl (hw _ (List.mem_of_getElem? (i := 81) rfl))) (by decide) (by decide) (by decide)))).other W13 (Or.inr (slot_ne (t := .long) (t' := .long) (Or.inl (hw _ (List.mem_of_getElem? (i := 66) rfl))) (Or.inl (hw _ (List.mem_of_getElem? (i := 83) rfl))) (by decide) (by decide) (by decide)))).other W20 (Or.inl ne_a_u_t))
  obtain ⟨T21, X21, e21, st21⟩ := getF X20 hx hZ hown (host := "") (Or.inl (hw _ (List.mem_of_getElem? (i := 65) rfl))) Via.refl e20 f22 (g := (mkF m 116 #[.val (.ref a), .val (.long p1), .second, .val (.long (1 : Int64)), .second, .val (.long (1 : Int64)), .second] [(.ref a), (.ref a)])) rfl rfl (hb hby d12_116)
  refine own_go (fun tgt cont => st21 tgt cont) ?_
  show own_Go p e below s (Q_rm12_C1 Z a p1 u_b u_w u_t u_n u_m u_s u_l ts h0 n0) 0 0 (T21.setTop (mkF m 119 #[.val (.ref a), .val (.long p1), .second, .val (.long (1 : Int64)), .second, .val (.long (1 : Int64)), .second] [(.long u_n), (.ref a)]))
  refine own_go (B := T21.setTop (mkF m 121 #[.val (.ref a), .val (.long p1), .second, .val (.long (1 : Int64)), .second, .val (.long (1 : Int64)), .second] [(.ref a), (.long (1 : Int64)), (.long u_n), (.ref a)])) (fun tgt cont => ?_) ?_
  · refine XS.lloadN X21.here hx rfl (hb hby d12_119) rfl ?_
    refine XS.aloadN X21.here hx rfl (hb hby d12_120) rfl rfl ?_
    exact cont
  have f24 := (((F_a_bucket.other W6 (Or.inr (slot_ne (t := .long) (t' := .int) (Or.inr (hw _ (List.mem_of_getElem? (i := 44) rfl))) (Or.inl (hw _ (List.mem_of_getElem? (i := 81) rfl))) (by decide) (by decide) (by decide)))).other W13 (Or.inr (slot_ne (t := .long) (t' := .long) (Or.inr (hw _ (List.mem_of_getElem? (i := 44) rfl))) (Or.inl (hw _ (List.mem_of_getElem? (i := 83) rfl))) (by decide) (by decide) (by decide)))).other W20 (Or.inl ne_a_u_t))
  obtain ⟨T23, X23, e23, st23⟩ := getF X21 hx hZ hown (host := "") (Or.inl (hw _ (List.mem_of_getElem? (i := 43) rfl))) Via.refl e21 f24 (g := (mkF m 121 #[.val (.ref a), .val (.long p1), .second, .val (.long (1 : Int64)), .second, .val (.long (1 : Int64)), .second] [(.ref a), (.long (1 : Int64)), (.long u_n), (.ref a)])) rfl rfl (hb hby d12_121)
  refine own_go (fun tgt cont => st23 tgt cont) ?_
  show own_Go p e below s (Q_rm12_C1 Z a p1 u_b u_w u_t u_n u_m u_s u_l ts h0 n0) 0 0 (T23.setTop (mkF m 124 #[.val (.ref a), .val (.long p1), .second, .val (.long (1 : Int64)), .second, .val (.long (1 : Int64)), .second] [(.long u_b), (.long (1 : Int64)), (.long u_n), (.ref a)]))
  refine own_go (B := T23.setTop (mkF m 126 #[.val (.ref a), .val (.long p1), .second, .val (.long (1 : Int64)), .second, .val (.long (1 : Int64)), .second] [(.long (u_n + ((1 : Int64) * u_b))), (.ref a)])) (fun tgt cont => ?_) ?_
  · refine XS.lmul X23.here hx rfl (hb hby d12_124) rfl ?_
    refine XS.ladd X23.here hx rfl (hb hby d12_125) rfl ?_
    exact cont
  have f26 := ((f14.wr W13).wr W20)
  obtain ⟨T25, h25, X25, e25, W25, st25⟩ := putF X23 hx hZ hown (host := "") (Or.inl (hw _ (List.mem_of_getElem? (i := 65) rfl))) Via.refl e23 f22 f26 (Or.inl (hw _ (List.mem_of_getElem? (i := 66) rfl))) (hw _ (List.mem_of_getElem? (i := 3) rfl)) (ty := .long) (by decide) rfl rfl (g := (mkF m 126 #[.val (.ref a), .val (.long p1), .second, .val (.long (1 : Int64)), .second, .val (.long (1 : Int64)), .second] [(.long (u_n + ((1 : Int64) * u_b))), (.ref a)])) rfl rfl (hb hby d12_126)
  have fw25 := f22.same W25
  have N25 := Fr.snoc X25 N20 g_a
  have kk25 : Keep h0 h25 [a, u_t] := kk20.wr W25 (Or.inl (List.mem_of_getElem? (i := 0) rfl))
  have zp25 : n0 ≤ h25.size := Nat.le_trans Z0 kk25.1
  refine own_go (fun tgt cont => st25 tgt cont) ?_
  show own_Go p e below s (Q_rm12_C1 Z a p1 u_b u_w u_t u_n u_m u_s u_l ts h0 n0) 0 0 (T25.setTop (mkF m 129 #[.val (.ref a), .val (.long p1), .second, .val (.long (1 : Int64)), .second, .val (.long (1 : Int64)), .second] []))
  refine own_go (B := T25.setTop (mkF m 131 #[.val (.ref a), .val (.long p1), .second, .val (.long (1 : Int64)), .second, .val (.long (1 : Int64)), .second] [(.ref a), (.ref a)])) (fun tgt cont => ?_) ?_
  · refine XS.aloadN X25.here hx rfl (hb hby d12_129) rfl rfl ?_
    refine XS.dup X25.here hx rfl (hb hby d12_130) rfl rfl ?_
    exact cont
  have f28 := ((((F_a_newestNumber.other W6 (Or.inr (slot_ne (t := .long) (t' := .int) (Or.inl (hw _ (List.mem_of_getElem? (i := 113) rfl))) (Or.inl (hw _ (List.mem_of_getElem? (i := 81) rfl))) (by decide) (by decide) (by decide)))).other W13 (Or.inr (slot_ne (t := .long) (t' := .long) (Or.inl (hw _ (List.mem_of_getElem? (i := 113) rfl))) (Or.inl (hw _ (List.mem_of_getElem? (i := 83) rfl))) (by decide) (by decide) (by decide)))).other W20 (Or.inl ne_a_u_t)).other W25 (Or.inr (slot_ne (t := .long) (t' := .long) (Or.inl (hw _ (List.mem_of_getElem? (i := 113) rfl))) (Or.inl (hw _ (List.mem_of_getElem? (i := 66) rfl))) (by decide) (by decide) (by decide))))
  obtain ⟨T27, X27, e27, st27⟩ := getF X25 hx hZ hown (host := "") (Or.inl (hw _ (List.mem_of_getElem? (i := 112) rfl))) Via.refl e25 f28 (g := (mkF m 131 #[.val (.ref a), .val (.long p1), .second, .val (.long (1 : Int64)), .second, .val (.long (1 : Int64)), .second] [(.ref a), (.ref a)])) rfl rfl (hb hby d12_131)
  refine own_go (fun tgt cont => st27 tgt cont) ?_
  show own_Go p e below s (Q_rm12_C1 Z a p1 u_b u_w u_t u_n u_m u_s u_l ts h0 n0) 0 0 (T27.setTop (mkF m 134 #[.val (.ref a), .val (.long p1), .second, .val (.long (1 : Int64)), .second, .val (.long (1 : Int64)), .second] [(.long u_m), (.ref a)]))
  refine own_go (B := T27.setTop (mkF m 136 #[.val (.ref a), .val (.long p1), .second, .val (.long (1 : Int64)), .second, .val (.long (1 : Int64)), .second] [(.long (u_m + (1 : Int64))), (.ref a)])) (fun tgt cont => ?_) ?_
  · refine XS.lloadN X27.here hx rfl (hb hby d12_134) rfl ?_
    refine XS.ladd X27.here hx rfl (hb hby d12_135) rfl ?_
    exact cont
  have f30 := (f26.wr W25)
  obtain ⟨T29, h29, X29, e29, W29, st29⟩ := putF X27 hx hZ hown (host := "") (Or.inl (hw _ (List.mem_of_getElem? (i := 112) rfl))) Via.refl e27 f28 f30 (Or.inl (hw _ (List.mem_of_getElem? (i := 113) rfl))) (hw _ (List.mem_of_getElem? (i := 3) rfl)) (ty := .long) (by decide) rfl rfl (g := (mkF m 136 #[.val (.ref a), .val (.long p1), .second, .val (.long (1 : Int64)), .second, .val (.long (1 : Int64)), .second] [(.long (u_m + (1 : Int64))), (.ref a)])) rfl rfl (hb hby d12_136)
  have fw29 := f28.same W29
  have N29 := Fr.snoc X29 N25 g_a
  have kk29 : Keep h0 h29 [a, u_t] := kk25.wr W29 (Or.inl (List.mem_of_getElem? (i := 0) rfl))
  have zp29 : n0 ≤ h29.size := Nat.le_trans Z0 kk29.1
  refine own_go (fun tgt cont => st29 tgt cont) ?_
  show own_Go p e below s (Q_rm12_C1 Z a p1 u_b u_w u_t u_n u_m u_s u_l ts h0 n0) 0 0 (T29.setTop (mkF m 139 #[.val (.ref a), .val (.long p1), .second, .val (.long (1 : Int64)), .second, .val (.long (1 : Int64)), .second] []))
  refine own_end X29 (v := none) (fun _ => rfl) hlk ?_ (by decide) (by decide) (fun fs hl => X29.returnOut hx Bd.returns (hb hby d12_139) hl)
  have f31 := (f30.wr W29)
  have f32 := ((f24.other W25 (Or.inr (slot_ne (t := .long) (t' := .long) (Or.inr (hw _ (List.mem_of_getElem? (i := 44) rfl))) (Or.inl (hw _ (List.mem_of_getElem? (i := 66) rfl))) (by decide) (by decide) (by decide)))).other W29 (Or.inr (slot_ne (t := .long) (t' := .long) (Or.inr (hw _ (List.mem_of_getElem? (i := 44) rfl))) (Or.inl (hw _ (List.mem_of_getElem? (i := 113) rfl))) (by decide) (by decide) (by decide))))
  have f33 := (((((F_a_window.other W6 (Or.inr (slot_ne (t := .long) (t' := .int) (Or.inr (hw _ (List.mem_of_getElem? (i := 51) rfl))) (Or.inl (hw _ (List.mem_of_getElem? (i := 81) rfl))) (by decide) (by decide) (by decide)))).other W13 (Or.inr (slot_ne (t := .long) (t' := .long) (Or.inr (hw _ (List.mem_of_getElem? (i := 51) rfl))) (Or.inl (hw _ (List.mem_of_getElem? (i := 83) rfl))) (by decide) (by decide) (by decide)))).other W20 (Or.inl ne_a_u_t)).other W25 (Or.inr (slot_ne (t := .long) (t' := .long) (Or.inr (hw _ (List.mem_of_getElem? (i := 51) rfl))) (Or.inl (hw _ (List.mem_of_getElem? (i := 66) rfl))) (by decide) (by decide) (by decide)))).other W29 (Or.inr (slot_ne (t := .long) (t' := .long) (Or.inr (hw _ (List.mem_of_getElem? (i := 51) rfl))) (Or.inl (hw _ (List.mem_of_getElem? (i := 113) rfl))) (by decide) (by decide) (by decide))))
  have f34 := (((f16.other W20 (Or.inl ne_a_u_t)).other W25 (Or.inr (slot_ne (t := (.array .long)) (t' := .long) (Or.inr (hw _ (List.mem_of_getElem? (i := 59) rfl))) (Or.inl (hw _ (List.mem_of_getElem? (i := 66) rfl))) (by decide) (by decide) (by decide)))).other W29 (Or.inr (slot_ne (t := (.array .long)) (t' := .long) (Or.inr (hw _ (List.mem_of_getElem? (i := 59) rfl))) (Or.inl (hw _ (List.mem_of_getElem? (i := 113) rfl))) (by decide) (by decide) (by decide))))
  have f35 := (fw25.other W29 (Or.inr (slot_ne (t := .long) (t' := .long) (Or.inl (hw _ (List.mem_of_getElem? (i := 66) rfl))) (Or.inl (hw _ (List.mem_of_getElem? (i := 113) rfl))) (by decide) (by decide) (by decide))))
  have f36 := (((f18.other W20 (Or.inl ne_a_u_t)).other W25 (Or.inr (slot_ne (t := .int) (t' := .long) (Or.inl (hw _ (List.mem_of_getElem? (i := 81) rfl))) (Or.inl (hw _ (List.mem_of_getElem? (i := 66) rfl))) (by decide) (by decide) (by decide)))).other W29 (Or.inr (slot_ne (t := .int) (t' := .long) (Or.inl (hw _ (List.mem_of_getElem? (i := 81) rfl))) (Or.inl (hw _ (List.mem_of_getElem? (i := 113) rfl))) (by decide) (by decide) (by decide))))
  have f37 := (((fw13.other W20 (Or.inl ne_a_u_t)).other W25 (Or.inr (slot_ne (t := .long) (t' := .long) (Or.inl (hw _ (List.mem_of_getElem? (i := 83) rfl))) (Or.inl (hw _ (List.mem_of_getElem? (i := 66) rfl))) (by decide) (by decide) (by decide)))).other W29 (Or.inr (slot_ne (t := .long) (t' := .long) (Or.inl (hw _ (List.mem_of_getElem? (i := 83) rfl))) (Or.inl (hw _ (List.mem_of_getElem? (i := 113) rfl))) (by decide) (by decide) (by decide))))
  have f38 := ((A20.other W25 (Ne.symm ne_a_u_t)).other W29 (Ne.symm ne_a_u_t))
  rw [e29]
  exact ⟨rfl, N29, kk29, f31, f32, f33, f34, (by unfold own_mvC1_newest; exact f35), (by unfold own_mvC1_newestNumber; exact fw29), (by unfold own_mvC1_newestSlot; exact f36), (by unfold own_mvC1_load; exact f37), (by unfold own_mvC1_ts; exact f38)⟩
def own_adC1_newest (u_b : Int64) (u_n : Int64) : Int64 := (own_mvC1_newest u_b u_n)
def own_adC1_newestNumber (u_m : Int64) : Int64 := (own_mvC1_newestNumber u_m)
def own_adC1_newestSlot (u_s : Int32) (ts : List Int64) : Int32 := (own_mvC1_newestSlot u_s ts)
def own_adC1_load (u_s : Int32) (u_l : Int64) (ts : List Int64) : Int64 := (own_mvC1_load u_s u_l ts)
def own_adC1_ts (u_s : Int32) (ts : List Int64) : List Int64 := (own_mvC1_ts u_s ts)
def Q_rm8_C1 (Z : State) (a : Addr) (p1 : Int64) (u_b : Int64) (u_w : Int64) (u_t : Addr) (u_n : Int64) (u_m : Int64) (u_s : Int32) (u_l : Int64) (ts : List Int64) (h0 : Heap) (n0 : Nat) (v : Option Value) (h : Heap) (L : List Loc) : Prop := v = none ∧ Fr n0 L ∧ Keep h0 h [a, u_t] ∧ Exa Z h a "com/example/eschborn/eschborn/engine/BucketWindow" ∧ Fld Z h a "com/example/eschborn/eschborn/engine/BucketWindow" "bucket" "J" (.long u_b) ∧ Fld Z h a "com/example/eschborn/eschborn/engine/BucketWindow" "window" "J" (.long u_w) ∧ Fld Z h a "com/example/eschborn/eschborn/engine/BucketWindow" "totals" "[J" (.ref u_t) ∧ Fld Z h a "com/example/eschborn/eschborn/engine/BucketWindow" "newest" "J" (.long (own_adC1_newest u_b u_n)) ∧ Fld Z h a "com/example/eschborn/eschborn/engine/BucketWindow" "newestNumber" "J" (.long (own_adC1_newestNumber u_m)) ∧ Fld Z h a "com/example/eschborn/eschborn/engine/BucketWindow" "newestSlot" "I" (.int (own_adC1_newestSlot u_s ts)) ∧ Fld Z h a "com/example/eschborn/eschborn/engine/BucketWindow" "load" "J" (.long (own_adC1_load u_s u_l ts)) ∧ own_LA Z h u_t (own_adC1_ts u_s ts)
set_option maxRecDepth 65536 in
set_option maxHeartbeats 40000000 in
theorem rm8_C1 (l : Launch) (Z : State) (a0 : Array Value) (hw : ∀ d ∈ tables_1, d.before a0 Z = true) (ws : List Jvm.Cond) (a : Addr) (p1 : Int64) (u_b : Int64) (u_w : Int64) (u_t : Addr) (u_n : Int64) (u_m : Int64) (u_s : Int32) (u_l : Int64) (ts : List Int64) (h0 : Heap) (n0 : Nat) (Z0 : n0 ≤ h0.size) (E_a : Exa Z h0 a "com/example/eschborn/eschborn/engine/BucketWindow") (F_a_bucket : Fld Z h0 a "com/example/eschborn/eschborn/engine/BucketWindow" "bucket" "J" (.long u_b)) (F_a_window : Fld Z h0 a "com/example/eschborn/eschborn/engine/BucketWindow" "window" "J" (.long u_w)) (F_a_totals : Fld Z h0 a "com/example/eschborn/eschborn/engine/BucketWindow" "totals" "[J" (.ref u_t)) (F_a_newest : Fld Z h0 a "com/example/eschborn/eschborn/engine/BucketWindow" "newest" "J" (.long u_n)) (F_a_newestNumber : Fld Z h0 a "com/example/eschborn/eschborn/engine/BucketWindow" "newestNumber" "J" (.long u_m)) (F_a_newestSlot : Fld Z h0 a "com/example/eschborn/eschborn/engine/BucketWindow" "newestSlot" "I" (.int u_s)) (F_a_load : Fld Z h0 a "com/example/eschborn/eschborn/engine/BucketWindow" "load" "J" (.long u_l)) (g_a : n0 ≤ a) (A_u_t : own_LA Z h0 u_t ts) (g_u_t : n0 ≤ u_t) (hm : ¬ own_cmpU (p1 - u_n) u_b < 0) (hnz : u_b ≠ 0) (hl : ¬ u_l = (0 : Int64)) (hk : (own_pas_r p1 u_b u_w u_n ts) = (1 : Int64)) (hn : ¬ (1 : Int64) = (Int32.ofNat ts.length).toInt64) (hs : ¬ u_s < 0 ∧ u_s.toNatClampNeg < ts.length) :
    MetFree l (⟨"com/example/eschborn/eschborn/engine/BucketWindow", "advance", "(J)V"⟩ : MethodName) (head1 (Jvm.Cond.code (⟨"com/example/eschborn/eschborn/engine/BucketWindow", "advance", "(J)V"⟩ : MethodName) prog_1_method_2_code 3 none :: ws) ({ frames := 4, cells := 0, slots := 0, locals := 66 } : Room)) (fun aa U => aa = #[(.ref a), (.long p1)] ∧ Z.Warmed39 U.vm ∧ U.heap = h0) (fun _ _ _ _ _ => True) (fun _ U o U' => ∃ v L, o = .returned v ∧ Q_rm8_C1 Z a p1 u_b u_w u_t u_n u_m u_s u_l ts h0 n0 v U'.heap L ∧ FrameEnd U o U' L ({ frames := 4, cells := 0, slots := 0, locals := 66 } : Room).cells ({ frames := 4, cells := 0, slots := 0, locals := 66 } : Room).slots) := by
  refine MetFree.of_bodySF (plainFor_of_name own_pn3) hisR ?_
  intro p e s m args below meth c s₁ Bd hml0 hP hK
  obtain ⟨rfl, hZ, hh⟩ := hP
  have hx := Bd.exec
  have hby := Bd.bytes
  have hml : c.maxLocals = 3 := hml0
  have hlk : meth.locks = false := BodyLoose.notSynchronized Bd
  have hown : s.vm.findClass "com/example/eschborn/eschborn/engine/BucketWindow" = some m.cls := findClass_of_methodNamed Bd.named
  have hnm := (name_of_methodNamed Bd.named Bd.method).1
  have X0 : Stand p l e ({ frames := 4, cells := 0, slots := 0, locals := 66 } : Room) s m #[(.ref a), (.long p1)] below meth c s₁ [] 0 0 := Stand.of_body Bd
  have e0 : s₁.heap = h0 := by rw [← hh, Bd.state]; rfl
  have N0 := Fr.nil n0
  show own_Go p e below s (Q_rm8_C1 Z a p1 u_b u_w u_t u_n u_m u_s u_l ts h0 n0) 0 0 (s₁.setTop (entryFrame m #[(.ref a), (.long p1)] 3))
  refine own_go (B := s₁.setTop (mkF m 0 #[.val (.ref a), .val (.long p1), .second] [])) (fun tgt cont => (XT.entry rfl).trans cont) ?_
  have ne_a_u_t := own_neA E_a (hw _ (List.mem_of_getElem? (i := 3) rfl)) A_u_t.arr
  refine own_go (B := s₁.setTop (mkF m 2 #[.val (.ref a), .val (.long p1), .second] [(.ref a), (.long p1)])) (fun tgt cont => ?_) ?_
  · refine XS.lloadN X0.here hx rfl (hb hby d8_0) rfl ?_
    refine XS.aloadN X0.here hx rfl (hb hby d8_1) rfl rfl ?_
    exact cont
  obtain ⟨T1, X1, e1, st1⟩ := getF X0 hx hZ hown (host := "") (Or.inl (hw _ (List.mem_of_getElem? (i := 65) rfl))) Via.refl e0 F_a_newest (g := (mkF m 2 #[.val (.ref a), .val (.long p1), .second] [(.ref a), (.long p1)])) rfl rfl (hb hby d8_2)
  refine own_go (fun tgt cont => st1 tgt cont) ?_
  show own_Go p e below s (Q_rm8_C1 Z a p1 u_b u_w u_t u_n u_m u_s u_l ts h0 n0) 0 0 (T1.setTop (mkF m 5 #[.val (.ref a), .val (.long p1), .second] [(.long u_n), (.long p1)]))
  refine own_go (B := T1.setTop (mkF m 7 #[.val (.ref a), .val (.long p1), .second] [(.ref a), (.long (p1 - u_n))])) (fun tgt cont => ?_) ?_
  · refine XS.lsub X1.here hx rfl (hb hby d8_5) rfl ?_
    refine XS.aloadN X1.here hx rfl (hb hby d8_6) rfl rfl ?_
    exact cont
  obtain ⟨T2, X2, e2, st2⟩ := getF X1 hx hZ hown (host := "") (Or.inl (hw _ (List.mem_of_getElem? (i := 43) rfl))) Via.refl e1 F_a_bucket (g := (mkF m 7 #[.val (.ref a), .val (.long p1), .second] [(.ref a), (.long (p1 - u_n))])) rfl rfl (hb hby d8_7)
  refine own_go (fun tgt cont => st2 tgt cont) ?_
  show own_Go p e below s (Q_rm8_C1 Z a p1 u_b u_w u_t u_n u_m u_s u_l ts h0 n0) 0 0 (T2.setTop (mkF m 10 #[.val (.ref a), .val (.long p1), .second] [(.long u_b), (.long (p1 - u_n))]))
  -- pc 10: Long.compareUnsigned
  obtain ⟨_, _, ⟨T3, L3, k3, n3⟩, -, X3, ⟨Lc3, hQ3, l3, y3, z3⟩, st3⟩ := Jvm.LawKit.callS X2 hx (y := (⟨"java/lang/Long", "compareUnsigned", "(JJ)I"⟩ : MethodName)) hown (mvT hZ (hw _ (List.mem_of_getElem? (i := 67) rfl))) (mvT hZ (hw _ (List.mem_of_getElem? (i := 68) rfl))) (mvT hZ (hw _ (List.mem_of_getElem? (i := 69) rfl))) (mvT hZ (hw _ (List.mem_of_getElem? (i := 70) rfl))) (by decide) (backOf (W := 0) (rm9 l Z a0 hw [] (p1 - u_n) u_b h0 n0 Z0 ) hZ (hw _ (List.mem_of_getElem? (i := 70) rfl)) (hw _ (List.mem_of_getElem? (i := 69) rfl)) (by decide) (by decide)) (g := (mkF m 10 #[.val (.ref a), .val (.long p1), .second] [(.long u_b), (.long (p1 - u_n))])) rfl (by rw [hml]; rfl) (argsL := [(.long (p1 - u_n)), (.long u_b)]) (rest := []) (lenOf own_pd1 rfl) rfl (by show 2 * 0 + _ ≤ _; exact Nat.le_of_eq rfl) (hb hby d8_10) (fun _ _ => ⟨rfl, e2, (by decide : 0 + 0 ≤ _), (by decide : 0 + 0 ≤ _)⟩)
  dsimp only [Pt.U, Pt.locs, Pt.cells, Pt.slots] at X3 l3 y3 z3 st3 hQ3
  subst l3 y3 z3
  obtain ⟨rfl, N3q, e3⟩ := hQ3
  have N3 := Fr.app N0 N3q
  refine own_go (fun tgt cont => st3 tgt cont) ?_
  show own_Go p e below s (Q_rm8_C1 Z a p1 u_b u_w u_t u_n u_m u_s u_l ts h0 n0) 0 0 (T3.setTop (mkF m 13 #[.val (.ref a), .val (.long p1), .second] [(.int (own_cmpU (p1 - u_n) u_b))]))
  refine own_go (B := T3.setTop (mkF m 18 #[.val (.ref a), .val (.long p1), .second] [(.long p1), (.ref a)])) (fun tgt cont => ?_) ?_
  · refine XS.ifNo X3.here hx rfl (hb hby d8_13) rfl (XT.i0_lt_f hm) ?_
    refine XS.aloadN X3.here hx rfl (hb hby d8_16) rfl rfl ?_
    refine XS.lloadN X3.here hx rfl (hb hby d8_17) rfl ?_
    exact cont
  -- pc 18: BucketWindow.moveOn
  obtain ⟨cc4, ca4, cb4⟩ := E_a.cell
  obtain ⟨_, _, ⟨T4, L4, k4, n4⟩, -, X4, ⟨Lc4, hQ4, l4, y4, z4⟩, st4⟩ := X3.privateBack hx (y := (⟨"com/example/eschborn/eschborn/engine/BucketWindow", "moveOn", "(J)V"⟩ : MethodName)) hown (mvT hZ (hw _ (List.mem_of_getElem? (i := 84) rfl))) (mvT hZ (hw _ (List.mem_of_getElem? (i := 85) rfl))) (own_selP hZ (hw _ (List.mem_of_getElem? (i := 3) rfl)) (hw _ (List.mem_of_getElem? (i := 85) rfl)) (hw _ (List.mem_of_getElem? (i := 86) rfl))) (Cond.privateMethod_at (mvP hZ (hw _ (List.mem_of_getElem? (i := 86) rfl)) (args := #[]))) (mvT hZ (hw _ (List.mem_of_getElem? (i := 87) rfl))) (by decide) (backOf (W := 0) (rm12_C1 l Z a0 hw [] a p1 u_b u_w u_t u_n u_m u_s u_l ts h0 n0 Z0 E_a F_a_bucket F_a_window F_a_totals F_a_newest F_a_newestNumber F_a_newestSlot F_a_load g_a A_u_t g_u_t hnz hl hk hn hs) hZ (hw _ (List.mem_of_getElem? (i := 87) rfl)) (hw _ (List.mem_of_getElem? (i := 4) rfl)) (by decide) (by decide)) (g := (mkF m 18 #[.val (.ref a), .val (.long p1), .second] [(.long p1), (.ref a)])) rfl (by rw [hml]; rfl) (Steps.refl _) (a := a) (by rw [e3]; exact ca4) cb4 (argsL := [(.long p1)]) (rest := []) (lenOf own_pd7 rfl) rfl (by show 2 * 0 + _ ≤ _; exact Nat.le_of_eq rfl) (hb hby d8_18) (fun _ _ => ⟨rfl, e3, (by decide : 0 + 0 + 0 ≤ _), (by decide : 0 + 0 + 0 ≤ _)⟩)
  dsimp only [Pt.U, Pt.locs, Pt.cells, Pt.slots] at X4 l4 y4 z4 st4 hQ4
  subst l4 y4 z4
  obtain ⟨rfl, N4q, K4, ex4_0, fa4_0, fa4_1, fa4_2, fa4_3, fa4_4, fa4_5, fa4_6, fa4_7⟩ := hQ4
  have N4 := Fr.app N3 N4q
  have kk4 : Keep h0 T4.heap [a, u_t] := (Keep.refl h0 [a, u_t]).trans K4 (allS (Or.inl (List.mem_of_getElem? (i := 0) rfl)) (allS (Or.inl (List.mem_of_getElem? (i := 1) rfl)) all0))
  have zp4 : n0 ≤ T4.heap.size := Nat.le_trans Z0 kk4.1
  refine own_go (fun tgt cont => st4.trans cont) ?_
  show own_Go p e below s (Q_rm8_C1 Z a p1 u_b u_w u_t u_n u_m u_s u_l ts h0 n0) 0 0 (T4.setTop (mkF m 21 #[.val (.ref a), .val (.long p1), .second] []))
  refine own_end X4 (v := none) (fun _ => rfl) hlk ?_ (by decide) (by decide) (fun fs hl => X4.returnOut hx Bd.returns (hb hby d8_21) hl)
  exact ⟨rfl, N4, kk4, ex4_0, fa4_0, fa4_1, fa4_2, (by unfold own_adC1_newest; exact fa4_3), (by unfold own_adC1_newestNumber; exact fa4_4), (by unfold own_adC1_newestSlot; exact fa4_5), (by unfold own_adC1_load; exact fa4_6), (by unfold own_adC1_ts; exact fa4_7)⟩
def own_mvC2_newest (u_b : Int64) (u_n : Int64) : Int64 := (u_n + ((2 : Int64) * u_b))
def own_mvC2_newestNumber (u_m : Int64) : Int64 := (u_m + (2 : Int64))
def own_mvC2_newestSlot (u_s : Int32) (ts : List Int64) : Int32 := (own_aft_r (own_aft_r u_s ts) (ts.set (own_aft_r u_s ts).toNatClampNeg (0 : Int64)))
def own_mvC2_load (u_s : Int32) (u_l : Int64) (ts : List Int64) : Int64 := ((u_l - (ts.getD (own_aft_r u_s ts).toNatClampNeg 0)) - ((ts.set (own_aft_r u_s ts).toNatClampNeg (0 : Int64)).getD (own_aft_r (own_aft_r u_s ts) (ts.set (own_aft_r u_s ts).toNatClampNeg (0 : Int64))).toNatClampNeg 0))
def own_mvC2_ts (u_s : Int32) (ts : List Int64) : List Int64 := ((ts.set (own_aft_r u_s ts).toNatClampNeg (0 : Int64)).set (own_aft_r (own_aft_r u_s ts) (ts.set (own_aft_r u_s ts).toNatClampNeg (0 : Int64))).toNatClampNeg (0 : Int64))
def Q_rm12_C2 (Z : State) (a : Addr) (p1 : Int64) (u_b : Int64) (u_w : Int64) (u_t : Addr) (u_n : Int64) (u_m : Int64) (u_s : Int32) (u_l : Int64) (ts : List Int64) (h0 : Heap) (n0 : Nat) (v : Option Value) (h : Heap) (L : List Loc) : Prop := v = none ∧ Fr n0 L ∧ Keep h0 h [a, u_t] ∧ Exa Z h a "com/example/eschborn/eschborn/engine/BucketWindow" ∧ Fld Z h a "com/example/eschborn/eschborn/engine/BucketWindow" "bucket" "J" (.long u_b) ∧ Fld Z h a "com/example/eschborn/eschborn/engine/BucketWindow" "window" "J" (.long u_w) ∧ Fld Z h a "com/example/eschborn/eschborn/engine/BucketWindow" "totals" "[J" (.ref u_t) ∧ Fld Z h a "com/example/eschborn/eschborn/engine/BucketWindow" "newest" "J" (.long (own_mvC2_newest u_b u_n)) ∧ Fld Z h a "com/example/eschborn/eschborn/engine/BucketWindow" "newestNumber" "J" (.long (own_mvC2_newestNumber u_m)) ∧ Fld Z h a "com/example/eschborn/eschborn/engine/BucketWindow" "newestSlot" "I" (.int (own_mvC2_newestSlot u_s ts)) ∧ Fld Z h a "com/example/eschborn/eschborn/engine/BucketWindow" "load" "J" (.long (own_mvC2_load u_s u_l ts)) ∧ own_LA Z h u_t (own_mvC2_ts u_s ts)
set_option maxRecDepth 65536 in
set_option maxHeartbeats 40000000 in
theorem rm12_C2 (l : Launch) (Z : State) (a0 : Array Value) (hw : ∀ d ∈ tables_1, d.before a0 Z = true) (ws : List Jvm.Cond) (a : Addr) (p1 : Int64) (u_b : Int64) (u_w : Int64) (u_t : Addr) (u_n : Int64) (u_m : Int64) (u_s : Int32) (u_l : Int64) (ts : List Int64) (h0 : Heap) (n0 : Nat) (Z0 : n0 ≤ h0.size) (E_a : Exa Z h0 a "com/example/eschborn/eschborn/engine/BucketWindow") (F_a_bucket : Fld Z h0 a "com/example/eschborn/eschborn/engine/BucketWindow" "bucket" "J" (.long u_b)) (F_a_window : Fld Z h0 a "com/example/eschborn/eschborn/engine/BucketWindow" "window" "J" (.long u_w)) (F_a_totals : Fld Z h0 a "com/example/eschborn/eschborn/engine/BucketWindow" "totals" "[J" (.ref u_t)) (F_a_newest : Fld Z h0 a "com/example/eschborn/eschborn/engine/BucketWindow" "newest" "J" (.long u_n)) (F_a_newestNumber : Fld Z h0 a "com/example/eschborn/eschborn/engine/BucketWindow" "newestNumber" "J" (.long u_m)) (F_a_newestSlot : Fld Z h0 a "com/example/eschborn/eschborn/engine/BucketWindow" "newestSlot" "I" (.int u_s)) (F_a_load : Fld Z h0 a "com/example/eschborn/eschborn/engine/BucketWindow" "load" "J" (.long u_l)) (g_a : n0 ≤ a) (A_u_t : own_LA Z h0 u_t ts) (g_u_t : n0 ≤ u_t) (hnz : u_b ≠ 0) (hl : ¬ u_l = (0 : Int64)) (hk : (own_pas_r p1 u_b u_w u_n ts) = (2 : Int64)) (hn : ¬ (2 : Int64) = (Int32.ofNat ts.length).toInt64) (hs : ¬ u_s < 0 ∧ u_s.toNatClampNeg < ts.length) :
    MetFree l (⟨"com/example/eschborn/eschborn/engine/BucketWindow", "moveOn", "(J)V"⟩ : MethodName) (head1 (Jvm.Cond.code (⟨"com/example/eschborn/eschborn/engine/BucketWindow", "moveOn", "(J)V"⟩ : MethodName) prog_1_method_3_code 7 none :: ws) ({ frames := 3, cells := 0, slots := 0, locals := 48 } : Room)) (fun aa U => aa = #[(.ref a), (.long p1)] ∧ Z.Warmed39 U.vm ∧ U.heap = h0) (fun _ _ _ _ _ => True) (fun _ U o U' => ∃ v L, o = .returned v ∧ Q_rm12_C2 Z a p1 u_b u_w u_t u_n u_m u_s u_l ts h0 n0 v U'.heap L ∧ FrameEnd U o U' L ({ frames := 3, cells := 0, slots := 0, locals := 48 } : Room).cells ({ frames := 3, cells := 0, slots := 0, locals := 48 } : Room).slots) := by
  refine MetFree.of_bodySF (plainFor_of_name own_pn3) hisR ?_
  intro p e s m args below meth c s₁ Bd hml0 hP hK
  obtain ⟨rfl, hZ, hh⟩ := hP
  have hx := Bd.exec
  have hby := Bd.bytes
  have hml : c.maxLocals = 7 := hml0
  have hlk : meth.locks = false := BodyLoose.notSynchronized Bd
  have hown : s.vm.findClass "com/example/eschborn/eschborn/engine/BucketWindow" = some m.cls := findClass_of_methodNamed Bd.named
  have hnm := (name_of_methodNamed Bd.named Bd.method).1
  have X0 : Stand p l e ({ frames := 3, cells := 0, slots := 0, locals := 48 } : Room) s m #[(.ref a), (.long p1)] below meth c s₁ [] 0 0 := Stand.of_body Bd
  have e0 : s₁.heap = h0 := by rw [← hh, Bd.state]; rfl
  have N0 := Fr.nil n0
  show own_Go p e below s (Q_rm12_C2 Z a p1 u_b u_w u_t u_n u_m u_s u_l ts h0 n0) 0 0 (s₁.setTop (entryFrame m #[(.ref a), (.long p1)] 7))
  refine own_go (B := s₁.setTop (mkF m 0 #[.val (.ref a), .val (.long p1), .second, .unset, .unset, .unset, .unset] [])) (fun tgt cont => (XT.entry rfl).trans cont) ?_
  have ne_a_u_t := own_neA E_a (hw _ (List.mem_of_getElem? (i := 3) rfl)) A_u_t.arr
  refine own_go (B := s₁.setTop (mkF m 2 #[.val (.ref a), .val (.long p1), .second, .unset, .unset, .unset, .unset] [(.long p1), (.ref a)])) (fun tgt cont => ?_) ?_
  · refine XS.aloadN X0.here hx rfl (hb hby d12_0) rfl rfl ?_
    refine XS.lloadN X0.here hx rfl (hb hby d12_1) rfl ?_
    exact cont
  -- pc 2: BucketWindow.passed
  obtain ⟨cc1, ca1, cb1⟩ := E_a.cell
  obtain ⟨_, _, ⟨T1, L1, k1, n1⟩, -, X1, ⟨Lc1, hQ1, l1, y1, z1⟩, st1⟩ := X0.privateBack hx (y := (⟨"com/example/eschborn/eschborn/engine/BucketWindow", "passed", "(J)J"⟩ : MethodName)) hown (mvT hZ (hw _ (List.mem_of_getElem? (i := 88) rfl))) (mvT hZ (hw _ (List.mem_of_getElem? (i := 89) rfl))) (own_selP hZ (hw _ (List.mem_of_getElem? (i := 3) rfl)) (hw _ (List.mem_of_getElem? (i := 89) rfl)) (hw _ (List.mem_of_getElem? (i := 90) rfl))) (Cond.privateMethod_at (mvP hZ (hw _ (List.mem_of_getElem? (i := 90) rfl)) (args := #[]))) (mvT hZ (hw _ (List.mem_of_getElem? (i := 91) rfl))) (by decide) (backOf (W := 0) (rm13 l Z a0 hw [] a p1 u_b u_w u_t u_n ts h0 n0 Z0 E_a F_a_bucket F_a_window F_a_totals F_a_newest A_u_t hnz) hZ (hw _ (List.mem_of_getElem? (i := 91) rfl)) (hw _ (List.mem_of_getElem? (i := 4) rfl)) (by decide) (by decide)) (g := (mkF m 2 #[.val (.ref a), .val (.long p1), .second, .unset, .unset, .unset, .unset] [(.long p1), (.ref a)])) rfl (by rw [hml]; rfl) (Steps.refl _) (a := a) (by rw [e0]; exact ca1) cb1 (argsL := [(.long p1)]) (rest := []) (lenOf own_pd6 rfl) rfl (by show 2 * 0 + _ ≤ _; exact Nat.le_of_eq rfl) (hb hby d12_2) (fun _ _ => ⟨rfl, e0, (by decide : 0 + 0 ≤ _), (by decide : 0 + 0 ≤ _)⟩)
  dsimp only [Pt.U, Pt.locs, Pt.cells, Pt.slots] at X1 l1 y1 z1 st1 hQ1
  subst l1 y1 z1
  obtain ⟨rfl, N1q, e1⟩ := hQ1
  have N1 := Fr.app N0 N1q
  refine own_go (fun tgt cont => st1.trans cont) ?_
  show own_Go p e below s (Q_rm12_C2 Z a p1 u_b u_w u_t u_n u_m u_s u_l ts h0 n0) 0 0 (T1.setTop (mkF m 5 #[.val (.ref a), .val (.long p1), .second, .unset, .unset, .unset, .unset] [(.long (own_pas_r p1 u_b u_w u_n ts))]))
  rw [hk]
  refine own_go (B := T1.setTop (mkF m 7 #[.val (.ref a), .val (.long p1), .second, .val (.long (2 : Int64)), .second, .unset, .unset] [(.ref a)])) (fun tgt cont => ?_) ?_
  · refine XS.lstoreN X1.here hx rfl (hb hby d12_5) rfl (l' := #[.val (.ref a), .val (.long p1), .second, .val (.long (2 : Int64)), .second, .unset, .unset]) rfl ?_
    refine XS.aloadN X1.here hx rfl (hb hby d12_6) rfl rfl ?_
    exact cont
  obtain ⟨T2, X2, e2, st2⟩ := getF X1 hx hZ hown (host := "") (Or.inl (hw _ (List.mem_of_getElem? (i := 82) rfl))) Via.refl e1 F_a_load (g := (mkF m 7 #[.val (.ref a), .val (.long p1), .second, .val (.long (2 : Int64)), .second, .unset, .unset] [(.ref a)])) rfl rfl (hb hby d12_7)
  refine own_go (fun tgt cont => st2 tgt cont) ?_
  show own_Go p e below s (Q_rm12_C2 Z a p1 u_b u_w u_t u_n u_m u_s u_l ts h0 n0) 0 0 (T2.setTop (mkF m 10 #[.val (.ref a), .val (.long p1), .second, .val (.long (2 : Int64)), .second, .unset, .unset] [(.long u_l)]))
  refine own_go (B := T2.setTop (mkF m 25 #[.val (.ref a), .val (.long p1), .second, .val (.long (2 : Int64)), .second, .unset, .unset] [(.ref a), (.long (2 : Int64))])) (fun tgt cont => ?_) ?_
  · refine XT.lconstV X2.here hx rfl (0 : Int64) (hb hby d12_10) rfl ?_
    refine XT.lcmp X2.here hx rfl (hb hby d12_11) rfl ?_
    refine XS.ifYes X2.here hx rfl (pc0 := 12) (pc' := 23) rfl (hb hby d12_12) rfl (XT.ll_ne_t hl) (by decide) (by decide) ?_
    refine XS.lloadN X2.here hx rfl (hb hby d12_23) rfl ?_
    refine XS.aloadN X2.here hx rfl (hb hby d12_24) rfl rfl ?_
    exact cont
  obtain ⟨T3, X3, e3, st3⟩ := getF X2 hx hZ hown (host := "") (Or.inl (hw _ (List.mem_of_getElem? (i := 58) rfl))) Via.refl e2 F_a_totals (g := (mkF m 25 #[.val (.ref a), .val (.long p1), .second, .val (.long (2 : Int64)), .second, .unset, .unset] [(.ref a), (.long (2 : Int64))])) rfl rfl (hb hby d12_25)
  refine own_go (fun tgt cont => st3 tgt cont) ?_
  show own_Go p e below s (Q_rm12_C2 Z a p1 u_b u_w u_t u_n u_m u_s u_l ts h0 n0) 0 0 (T3.setTop (mkF m 28 #[.val (.ref a), .val (.long p1), .second, .val (.long (2 : Int64)), .second, .unset, .unset] [(.ref u_t), (.long (2 : Int64))]))
  refine own_go (B := T3.setTop (mkF m 66 #[.val (.ref a), .val (.long p1), .second, .val (.long (2 : Int64)), .second, .val (.long (0 : Int64)), .second] [(.ref a)])) (fun tgt cont => ?_) ?_
  · refine own_lenLA X3 hx hZ e3 A_u_t (g := (mkF m 28 #[.val (.ref a), .val (.long p1), .second, .val (.long (2 : Int64)), .second, .unset, .unset] [(.ref u_t), (.long (2 : Int64))])) rfl rfl (hb hby d12_28) ?_
    refine XS.i2l X3.here hx rfl (hb hby d12_29) rfl ?_
    refine XT.lcmp X3.here hx rfl (hb hby d12_30) rfl ?_
    refine XS.ifYes X3.here hx rfl (pc0 := 31) (pc' := 55) rfl (hb hby d12_31) rfl (XT.ll_ne_t hn) (by decide) (by decide) ?_
    refine XT.lconstV X3.here hx rfl (0 : Int64) (hb hby d12_55) rfl ?_
    refine XS.lstore X3.here hx rfl (hb hby d12_56) rfl (l' := #[.val (.ref a), .val (.long p1), .second, .val (.long (2 : Int64)), .second, .val (.long (0 : Int64)), .second]) rfl ?_
    refine XS.lload X3.here hx rfl (hb hby d12_58) rfl ?_
    refine XS.lloadN X3.here hx rfl (hb hby d12_60) rfl ?_
    refine XT.lcmp X3.here hx rfl (hb hby d12_61) rfl ?_
    refine XS.ifNo X3.here hx rfl (hb hby d12_62) rfl (XT.ll_ge_f (by decide)) ?_
    refine XS.aloadN X3.here hx rfl (hb hby d12_65) rfl rfl ?_
    exact cont
  refine own_go (B := T3.setTop (mkF m 68 #[.val (.ref a), .val (.long p1), .second, .val (.long (2 : Int64)), .second, .val (.long (0 : Int64)), .second] [(.ref a), (.ref a), (.ref a)])) (fun tgt cont => ?_) ?_
  · refine XS.aloadN X3.here hx rfl (hb hby d12_66) rfl rfl ?_
    refine XS.aloadN X3.here hx rfl (hb hby d12_67) rfl rfl ?_
    exact cont
  obtain ⟨T4, X4, e4, st4⟩ := getF X3 hx hZ hown (host := "") (Or.inl (hw _ (List.mem_of_getElem? (i := 80) rfl))) Via.refl e3 F_a_newestSlot (g := (mkF m 68 #[.val (.ref a), .val (.long p1), .second, .val (.long (2 : Int64)), .second, .val (.long (0 : Int64)), .second] [(.ref a), (.ref a), (.ref a)])) rfl rfl (hb hby d12_68)
  refine own_go (fun tgt cont => st4 tgt cont) ?_
  show own_Go p e below s (Q_rm12_C2 Z a p1 u_b u_w u_t u_n u_m u_s u_l ts h0 n0) 0 0 (T4.setTop (mkF m 71 #[.val (.ref a), .val (.long p1), .second, .val (.long (2 : Int64)), .second, .val (.long (0 : Int64)), .second] [(.int u_s), (.ref a), (.ref a)]))
  -- pc 71: BucketWindow.after
  obtain ⟨cc5, ca5, cb5⟩ := E_a.cell
  obtain ⟨_, _, ⟨T5, L5, k5, n5⟩, -, X5, ⟨Lc5, hQ5, l5, y5, z5⟩, st5⟩ := X4.privateBack hx (y := (⟨"com/example/eschborn/eschborn/engine/BucketWindow", "after", "(I)I"⟩ : MethodName)) hown (mvT hZ (hw _ (List.mem_of_getElem? (i := 123) rfl))) (mvT hZ (hw _ (List.mem_of_getElem? (i := 124) rfl))) (own_selP hZ (hw _ (List.mem_of_getElem? (i := 3) rfl)) (hw _ (List.mem_of_getElem? (i := 124) rfl)) (hw _ (List.mem_of_getElem? (i := 125) rfl))) (Cond.privateMethod_at (mvP hZ (hw _ (List.mem_of_getElem? (i := 125) rfl)) (args := #[]))) (mvT hZ (hw _ (List.mem_of_getElem? (i := 126) rfl))) (by decide) (backOf (W := 1) (rm21 l Z a0 hw [] a u_s u_t ts h0 n0 Z0 E_a F_a_totals A_u_t) hZ (hw _ (List.mem_of_getElem? (i := 126) rfl)) (hw _ (List.mem_of_getElem? (i := 4) rfl)) (by decide) (by decide)) (g := (mkF m 71 #[.val (.ref a), .val (.long p1), .second, .val (.long (2 : Int64)), .second, .val (.long (0 : Int64)), .second] [(.int u_s), (.ref a), (.ref a)])) rfl (by rw [hml]; rfl) (Steps.refl _) (a := a) (by rw [e4]; exact ca5) cb5 (argsL := [(.int u_s)]) (rest := [(.ref a)]) (lenOf own_pd9 rfl) rfl (by show 2 * 0 + _ ≤ _; exact Nat.le_of_eq rfl) (hb hby d12_71) (fun _ _ => ⟨rfl, e4, (by decide : 0 + 0 + 0 ≤ _), (by decide : 0 + 0 + 0 ≤ _)⟩)
  dsimp only [Pt.U, Pt.locs, Pt.cells, Pt.slots] at X5 l5 y5 z5 st5 hQ5
  subst l5 y5 z5
  obtain ⟨rfl, N5q, e5⟩ := hQ5
  have N5 := Fr.app N1 N5q
  refine own_go (fun tgt cont => st5.trans cont) ?_
  show own_Go p e below s (Q_rm12_C2 Z a p1 u_b u_w u_t u_n u_m u_s u_l ts h0 n0) 0 0 (T5.setTop (mkF m 74 #[.val (.ref a), .val (.long p1), .second, .val (.long (2 : Int64)), .second, .val (.long (0 : Int64)), .second] [(.int (own_aft_r u_s ts)), (.ref a)]))
  obtain ⟨T6, h6, X6, e6, W6, st6⟩ := putF X5 hx hZ hown (host := "") (Or.inl (hw _ (List.mem_of_getElem? (i := 80) rfl))) Via.refl e5 F_a_newestSlot E_a (Or.inl (hw _ (List.mem_of_getElem? (i := 81) rfl))) (hw _ (List.mem_of_getElem? (i := 3) rfl)) (ty := .int) (by decide) rfl rfl (g := (mkF m 74 #[.val (.ref a), .val (.long p1), .second, .val (.long (2 : Int64)), .second, .val (.long (0 : Int64)), .second] [(.int (own_aft_r u_s ts)), (.ref a)])) rfl rfl (hb hby d12_74)
  have fw6 := F_a_newestSlot.same W6
  have N6 := Fr.snoc X6 N5 g_a
  have kk6 : Keep h0 h6 [a, u_t] := (Keep.refl h0 [a, u_t]).wr W6 (Or.inl (List.mem_of_getElem? (i := 0) rfl))
  have zp6 : n0 ≤ h6.size := Nat.le_trans Z0 kk6.1
  refine own_go (fun tgt cont => st6 tgt cont) ?_
  show own_Go p e below s (Q_rm12_C2 Z a p1 u_b u_w u_t u_n u_m u_s u_l ts h0 n0) 0 0 (T6.setTop (mkF m 77 #[.val (.ref a), .val (.long p1), .second, .val (.long (2 : Int64)), .second, .val (.long (0 : Int64)), .second] []))
  refine own_go (B := T6.setTop (mkF m 79 #[.val (.ref a), .val (.long p1), .second, .val (.long (2 : Int64)), .second, .val (.long (0 : Int64)), .second] [(.ref a), (.ref a)])) (fun tgt cont => ?_) ?_
  · refine XS.aloadN X6.here hx rfl (hb hby d12_77) rfl rfl ?_
    refine XS.dup X6.here hx rfl (hb hby d12_78) rfl rfl ?_
    exact cont
  have f8 := (F_a_load.other W6 (Or.inr (slot_ne (t := .long) (t' := .int) (Or.inl (hw _ (List.mem_of_getElem? (i := 83) rfl))) (Or.inl (hw _ (List.mem_of_getElem? (i := 81) rfl))) (by decide) (by decide) (by decide))))
  obtain ⟨T7, X7, e7, st7⟩ := getF X6 hx hZ hown (host := "") (Or.inl (hw _ (List.mem_of_getElem? (i := 82) rfl))) Via.refl e6 f8 (g := (mkF m 79 #[.val (.ref a), .val (.long p1), .second, .val (.long (2 : Int64)), .second, .val (.long (0 : Int64)), .second] [(.ref a), (.ref a)])) rfl rfl (hb hby d12_79)
  refine own_go (fun tgt cont => st7 tgt cont) ?_
  show own_Go p e below s (Q_rm12_C2 Z a p1 u_b u_w u_t u_n u_m u_s u_l ts h0 n0) 0 0 (T7.setTop (mkF m 82 #[.val (.ref a), .val (.long p1), .second, .val (.long (2 : Int64)), .second, .val (.long (0 : Int64)), .second] [(.long u_l), (.ref a)]))
  refine own_go (B := T7.setTop (mkF m 83 #[.val (.ref a), .val (.long p1), .second, .val (.long (2 : Int64)), .second, .val (.long (0 : Int64)), .second] [(.ref a), (.long u_l), (.ref a)])) (fun tgt cont => ?_) ?_
  · refine XS.aloadN X7.here hx rfl (hb hby d12_82) rfl rfl ?_
    exact cont
  have f10 := (F_a_totals.other W6 (Or.inr (slot_ne (t := (.array .long)) (t' := .int) (Or.inr (hw _ (List.mem_of_getElem? (i := 59) rfl))) (Or.inl (hw _ (List.mem_of_getElem? (i := 81) rfl))) (by decide) (by decide) (by decide))))
  obtain ⟨T9, X9, e9, st9⟩ := getF X7 hx hZ hown (host := "") (Or.inl (hw _ (List.mem_of_getElem? (i := 58) rfl))) Via.refl e7 f10 (g := (mkF m 83 #[.val (.ref a), .val (.long p1), .second, .val (.long (2 : Int64)), .second, .val (.long (0 : Int64)), .second] [(.ref a), (.long u_l), (.ref a)])) rfl rfl (hb hby d12_83)
  refine own_go (fun tgt cont => st9 tgt cont) ?_
  show own_Go p e below s (Q_rm12_C2 Z a p1 u_b u_w u_t u_n u_m u_s u_l ts h0 n0) 0 0 (T9.setTop (mkF m 86 #[.val (.ref a), .val (.long p1), .second, .val (.long (2 : Int64)), .second, .val (.long (0 : Int64)), .second] [(.ref u_t), (.long u_l), (.ref a)]))
  refine own_go (B := T9.setTop (mkF m 87 #[.val (.ref a), .val (.long p1), .second, .val (.long (2 : Int64)), .second, .val (.long (0 : Int64)), .second] [(.ref a), (.ref u_t), (.long u_l), (.ref a)])) (fun tgt cont => ?_) ?_
  · refine XS.aloadN X9.here hx rfl (hb hby d12_86) rfl rfl ?_
    exact cont
  obtain ⟨T11, X11, e11, st11⟩ := getF X9 hx hZ hown (host := "") (Or.inl (hw _ (List.mem_of_getElem? (i := 80) rfl))) Via.refl e9 fw6 (g := (mkF m 87 #[.val (.ref a), .val (.long p1), .second, .val (.long (2 : Int64)), .second, .val (.long (0 : Int64)), .second] [(.ref a), (.ref u_t), (.long u_l), (.ref a)])) rfl rfl (hb hby d12_87)
  refine own_go (fun tgt cont => st11 tgt cont) ?_
  show own_Go p e below s (Q_rm12_C2 Z a p1 u_b u_w u_t u_n u_m u_s u_l ts h0 n0) 0 0 (T11.setTop (mkF m 90 #[.val (.ref a), .val (.long p1), .second, .val (.long (2 : Int64)), .second, .val (.long (0 : Int64)), .second] [(.int (own_aft_r u_s ts)), (.ref u_t), (.long u_l), (.ref a)]))
  have f12 := (A_u_t.other W6 (Ne.symm ne_a_u_t))
  refine own_go (B := T11.setTop (mkF m 92 #[.val (.ref a), .val (.long p1), .second, .val (.long (2 : Int64)), .second, .val (.long (0 : Int64)), .second] [(.long (u_l - (ts.getD (own_aft_r u_s ts).toNatClampNeg 0))), (.ref a)])) (fun tgt cont => ?_) ?_
  · refine own_ldLA X11 hx hZ e11 f12 (j := (own_aft_r u_s ts)) (own_aftB hs A_u_t.small) (g := (mkF m 90 #[.val (.ref a), .val (.long p1), .second, .val (.long (2 : Int64)), .second, .val (.long (0 : Int64)), .second] [(.int (own_aft_r u_s ts)), (.ref u_t), (.long u_l), (.ref a)])) rfl rfl (hb hby d12_90) ?_
    refine XS.lsub X11.here hx rfl (hb hby d12_91) rfl ?_
    exact cont
  have f14 := (E_a.wr W6)
  obtain ⟨T13, h13, X13, e13, W13, st13⟩ := putF X11 hx hZ hown (host := "") (Or.inl (hw _ (List.mem_of_getElem? (i := 82) rfl))) Via.refl e11 f8 f14 (Or.inl (hw _ (List.mem_of_getElem? (i := 83) rfl))) (hw _ (List.mem_of_getElem? (i := 3) rfl)) (ty := .long) (by decide) rfl rfl (g := (mkF m 92 #[.val (.ref a), .val (.long p1), .second, .val (.long (2 : Int64)), .second, .val (.long (0 : Int64)), .second] [(.long (u_l - (ts.getD (own_aft_r u_s ts).toNatClampNeg 0))), (.ref a)])) rfl rfl (hb hby d12_92)
  have fw13 := f8.same W13
  have N13 := Fr.snoc X13 N6 g_a
  have kk13 : Keep h0 h13 [a, u_t] := kk6.wr W13 (Or.inl (List.mem_of_getElem? (i := 0) rfl))
  have zp13 : n0 ≤ h13.size := Nat.le_trans Z0 kk13.1
  refine own_go (fun tgt cont => st13 tgt cont) ?_
  show own_Go p e below s (Q_rm12_C2 Z a p1 u_b u_w u_t u_n u_m u_s u_l ts h0 n0) 0 0 (T13.setTop (mkF m 95 #[.val (.ref a), .val (.long p1), .second, .val (.long (2 : Int64)), .second, .val (.long (0 : Int64)), .second] []))
  refine own_go (B := T13.setTop (mkF m 96 #[.val (.ref a), .val (.long p1), .second, .val (.long (2 : Int64)), .second, .val (.long (0 : Int64)), .second] [(.ref a)])) (fun tgt cont => ?_) ?_
  · refine XS.aloadN X13.here hx rfl (hb hby d12_95) rfl rfl ?_
    exact cont
  have f16 := (f10.other W13 (Or.inr (slot_ne (t := (.array .long)) (t' := .long) (Or.inr (hw _ (List.mem_of_getElem? (i := 59) rfl))) (Or.inl (hw _ (List.mem_of_getElem? (i := 83) rfl))) (by decide) (by decide) (by decide))))
  obtain ⟨T15, X15, e15, st15⟩ := getF X13 hx hZ hown (host := "") (Or.inl (hw _ (List.mem_of_getElem? (i := 58) rfl))) Via.refl e13 f16 (g := (mkF m 96 #[.val (.ref a), .val (.long p1), .second, .val (.long (2 : Int64)), .second, .val (.long (0 : Int64)), .second] [(.ref a)])) rfl rfl (hb hby d12_96)
  refine own_go (fun tgt cont => st15 tgt cont) ?_
  show own_Go p e below s (Q_rm12_C2 Z a p1 u_b u_w u_t u_n u_m u_s u_l ts h0 n0) 0 0 (T15.setTop (mkF m 99 #[.val (.ref a), .val (.long p1), .second, .val (.long (2 : Int64)), .second, .val (.long (0 : Int64)), .second] [(.ref u_t)]))
  refine own_go (B := T15.setTop (mkF m 100 #[.val (.ref a), .val (.long p1), .second, .val (.long (2 : Int64)), .second, .val (.long (0 : Int64)), .second] [(.ref a), (.ref u_t)])) (fun tgt cont => ?_) ?_
  · refine XS.aloadN X15.here hx rfl (hb hby d12_99) rfl rfl ?_
    exact cont
  have f18 := (fw6.other W13 (Or.inr (slot_ne (t := .int) (t' := .long) (Or.inl (hw _ (List.mem_of_getElem? (i := 81) rfl))) (Or.inl (hw _ (List.mem_of_getElem? (i := 83) rfl))) (by decide) (by decide) (by decide))))
  obtain ⟨T17, X17, e17, st17⟩ := getF X15 hx hZ hown (host := "") (Or.inl (hw _ (List.mem_of_getElem? (i := 80) rfl))) Via.refl e15 f18 (g := (mkF m 100 #[.val (.ref a), .val (.long p1), .second, .val (.long (2 : Int64)), .second, .val (.long (0 : Int64)), .second] [(.ref a), (.ref u_t)])) rfl rfl (hb hby d12_100)
  refine own_go (fun tgt cont => st17 tgt cont) ?_
  show own_Go p e below s (Q_rm12_C2 Z a p1 u_b u_w u_t u_n u_m u_s u_l ts h0 n0) 0 0 (T17.setTop (mkF m 103 #[.val (.ref a), .val (.long p1), .second, .val (.long (2 : Int64)), .second, .val (.long (0 : Int64)), .second] [(.int (own_aft_r u_s ts)), (.ref u_t)]))
  refine own_go (B := T17.setTop (mkF m 104 #[.val (.ref a), .val (.long p1), .second, .val (.long (2 : Int64)), .second, .val (.long (0 : Int64)), .second] [(.long (0 : Int64)), (.int (own_aft_r u_s ts)), (.ref u_t)])) (fun tgt cont => ?_) ?_
  · refine XT.lconstV X17.here hx rfl (0 : Int64) (hb hby d12_103) rfl ?_
    exact cont
  have f19 := (f12.other W13 (Ne.symm ne_a_u_t))
  obtain ⟨T20, h20, X20, e20, W20, A20, st20⟩ := own_stLA X17 hx hZ e17 f19 (j := (own_aft_r u_s ts)) (x := (0 : Int64)) (own_aftB hs A_u_t.small) (g := (mkF m 104 #[.val (.ref a), .val (.long p1), .second, .val (.long (2 : Int64)), .second, .val (.long (0 : Int64)), .second] [(.long (0 : Int64)), (.int (own_aft_r u_s ts)), (.ref u_t)])) rfl rfl (hb hby d12_104)
  have N20 := Fr.snoc X20 N13 g_u_t
  have kk20 : Keep h0 h20 [a, u_t] := kk13.wr W20 (Or.inl (List.mem_of_getElem? (i := 1) rfl))
  have zp20 : n0 ≤ h20.size := Nat.le_trans Z0 kk20.1
  refine own_go (fun tgt cont => st20 tgt cont) ?_
  show own_Go p e below s (Q_rm12_C2 Z a p1 u_b u_w u_t u_n u_m u_s u_l ts h0 n0) 0 0 (T20.setTop (mkF m 105 #[.val (.ref a), .val (.long p1), .second, .val (.long (2 : Int64)), .second, .val (.long (0 : Int64)), .second] []))
  refine own_go (B := T20.setTop (mkF m 66 #[.val (.ref a), .val (.long p1), .second, .val (.long (2 : Int64)), .second, .val (.long (1 : Int64)), .second] [(.ref a)])) (fun tgt cont => ?_) ?_
  · refine XS.lload X20.here hx rfl (hb hby d12_105) rfl ?_
    refine XT.lconstV X20.here hx rfl (1 : Int64) (hb hby d12_107) rfl ?_
    refine XS.ladd X20.here hx rfl (hb hby d12_108) rfl ?_
    refine XS.lstore X20.here hx rfl (hb hby d12_109) rfl (l' := #[.val (.ref a), .val (.long p1), .second, .val (.long (2 : Int64)), .second, .val (.long (1 : Int64)), .second]) rfl ?_
    refine XS.goto X20.here hx rfl (pc0 := 111) (pc' := 58) rfl (hb hby d12_111) (by decide) (by decide) ?_
    refine XS.lload X20.here hx rfl (hb hby d12_58) rfl ?_
    refine XS.lloadN X20.here hx rfl (hb hby d12_60) rfl ?_
    refine XT.lcmp X20.here hx rfl (hb hby d12_61) rfl ?_
    refine XS.ifNo X20.here hx rfl (hb hby d12_62) rfl (XT.ll_ge_f (by decide)) ?_
    refine XS.aloadN X20.here hx rfl (hb hby d12_65) rfl rfl ?_
    exact cont
  refine own_go (B := T20.setTop (mkF m 68 #[.val (.ref a), .val (.long p1), .second, .val (.long (2 : Int64)), .second, .val (.long (1 : Int64)), .second] [(.ref a), (.ref a), (.ref a)])) (fun tgt cont => ?_) ?_
  · refine XS.aloadN X20.here hx rfl (hb hby d12_66) rfl rfl ?_
    refine XS.aloadN X20.here hx rfl (hb hby d12_67) rfl rfl ?_
    exact cont
  have f22 := (f18.other W20 (Or.inl ne_a_u_t))
  obtain ⟨T21, X21, e21, st21⟩ := getF X20 hx hZ hown (host := "") (Or.inl (hw _ (List.mem_of_getElem? (i := 80) rfl))) Via.refl e20 f22 (g := (mkF m 68 #[.val (.ref a), .val (.long p1), .second, .val (.long (2 : Int64)), .second, .val (.long (1 : Int64)), .second] [(.ref a), (.ref a), (.ref a)])) rfl rfl (hb hby d12_68)
  refine own_go (fun tgt cont => st21 tgt cont) ?_
  show own_Go p e below s (Q_rm12_C2 Z a p1 u_b u_w u_t u_n u_m u_s u_l ts h0 n0) 0 0 (T21.setTop (mkF m 71 #[.val (.ref a), .val (.long p1), .second, .val (.long (2 : Int64)), .second, .val (.long (1 : Int64)), .second] [(.int (own_aft_r u_s ts)), (.ref a), (.ref a)]))
  -- pc 71: BucketWindow.after
  have f24 := ((f14.wr W13).wr W20)
  have f25 := (f16.other W20 (Or.inl ne_a_u_t))
  obtain ⟨cc23, ca23, cb23⟩ := f24.cell
  obtain ⟨_, _, ⟨T23, L23, k23, n23⟩, -, X23, ⟨Lc23, hQ23, l23, y23, z23⟩, st23⟩ := X21.privateBack hx (y := (⟨"com/example/eschborn/eschborn/engine/BucketWindow", "after", "(I)I"⟩ : MethodName)) hown (mvT hZ (hw _ (List.mem_of_getElem? (i := 123) rfl))) (mvT hZ (hw _ (List.mem_of_getElem? (i := 124) rfl))) (own_selP hZ (hw _ (List.mem_of_getElem? (i := 3) rfl)) (hw _ (List.mem_of_getElem? (i := 124) rfl)) (hw _ (List.mem_of_getElem? (i := 125) rfl))) (Cond.privateMethod_at (mvP hZ (hw _ (List.mem_of_getElem? (i := 125) rfl)) (args := #[]))) (mvT hZ (hw _ (List.mem_of_getElem? (i := 126) rfl))) (by decide) (backOf (W := 1) (rm21 l Z a0 hw [] a (own_aft_r u_s ts) u_t (ts.set (own_aft_r u_s ts).toNatClampNeg (0 : Int64)) h20 n0 zp20 f24 f25 A20) hZ (hw _ (List.mem_of_getElem? (i := 126) rfl)) (hw _ (List.mem_of_getElem? (i := 4) rfl)) (by decide) (by decide)) (g := (mkF m 71 #[.val (.ref a), .val (.long p1), .second, .val (.long (2 : Int64)), .second, .val (.long (1 : Int64)), .second] [(.int (own_aft_r u_s ts)), (.ref a), (.ref a)])) rfl (by rw [hml]; rfl) (Steps.refl _) (a := a) (by rw [e21]; exact ca23) cb23 (argsL := [(.int (own_aft_r u_s ts))]) (rest := [(.ref a)]) (lenOf own_pd9 rfl) rfl (by show 2 * 0 + _ ≤ _; exact Nat.le_of_eq rfl) (hb hby d12_71) (fun _ _ => ⟨rfl, e21, (by decide : 0 + 0 + 0 + 0 ≤ _), (by decide : 0 + 0 + 0 + 0 ≤ _)⟩)
  dsimp only [Pt.U, Pt.locs, Pt.cells, Pt.slots] at X23 l23 y23 z23 st23 hQ23
  subst l23 y23 z23
  obtain ⟨rfl, N23q, e23⟩ := hQ23
  have N23 := Fr.app N20 N23q
  refine own_go (fun tgt cont => st23.trans cont) ?_
  show own_Go p e below s (Q_rm12_C2 Z a p1 u_b u_w u_t u_n u_m u_s u_l ts h0 n0) 0 0 (T23.setTop (mkF m 74 #[.val (.ref a), .val (.long p1), .second, .val (.long (2 : Int64)), .second, .val (.long (1 : Int64)), .second] [(.int (own_aft_r (own_aft_r u_s ts) (ts.set (own_aft_r u_s ts).toNatClampNeg (0 : Int64)))), (.ref a)]))
  obtain ⟨T26, h26, X26, e26, W26, st26⟩ := putF X23 hx hZ hown (host := "") (Or.inl (hw _ (List.mem_of_getElem? (i := 80) rfl))) Via.refl e23 f22 f24 (Or.inl (hw _ (List.mem_of_getElem? (i := 81) rfl))) (hw _ (List.mem_of_getElem? (i := 3) rfl)) (ty := .int) (by decide) rfl rfl (g := (mkF m 74 #[.val (.ref a), .val (.long p1), .second, .val (.long (2 : Int64)), .second, .val (.long (1 : Int64)), .second] [(.int (own_aft_r (own_aft_r u_s ts) (ts.set (own_aft_r u_s ts).toNatClampNeg (0 : Int64)))), (.ref a)])) rfl rfl (hb hby d12_74)
  have fw26 := f22.same W26
  have N26 := Fr.snoc X26 N23 g_a
  have kk26 : Keep h0 h26 [a, u_t] := kk20.wr W26 (Or.inl (List.mem_of_getElem? (i := 0) rfl))
  have zp26 : n0 ≤ h26.size := Nat.le_trans Z0 kk26.1
  refine own_go (fun tgt cont => st26 tgt cont) ?_
  show own_Go p e below s (Q_rm12_C2 Z a p1 u_b u_w u_t u_n u_m u_s u_l ts h0 n0) 0 0 (T26.setTop (mkF m 77 #[.val (.ref a), .val (.long p1), .second, .val (.long (2 : Int64)), .second, .val (.long (1 : Int64)), .second] []))
  refine own_go (B := T26.setTop (mkF m 79 #[.val (.ref a), .val (.long p1), .second, .val (.long (2 : Int64)), .second, .val (.long (1 : Int64)), .second] [(.ref a), (.ref a)])) (fun tgt cont => ?_) ?_
  · refine XS.aloadN X26.here hx rfl (hb hby d12_77) rfl rfl ?_
    refine XS.dup X26.here hx rfl (hb hby d12_78) rfl rfl ?_
    exact cont
  have f28 := ((fw13.other W20 (Or.inl ne_a_u_t)).other W26 (Or.inr (slot_ne (t := .long) (t' := .int) (Or.inl (hw _ (List.mem_of_getElem? (i := 83) rfl))) (Or.inl (hw _ (List.mem_of_getElem? (i := 81) rfl))) (by decide) (by decide) (by decide))))
  obtain ⟨T27, X27, e27, st27⟩ := getF X26 hx hZ hown (host := "") (Or.inl (hw _ (List.mem_of_getElem? (i := 82) rfl))) Via.refl e26 f28 (g := (mkF m 79 #[.val (.ref a), .val (.long p1), .second, .val (.long (2 : Int64)), .second, .val (.long (1 : Int64)), .second] [(.ref a), (.ref a)])) rfl rfl (hb hby d12_79)
  refine own_go (fun tgt cont => st27 tgt cont) ?_
  show own_Go p e below s (Q_rm12_C2 Z a p1 u_b u_w u_t u_n u_m u_s u_l ts h0 n0) 0 0 (T27.setTop (mkF m 82 #[.val (.ref a), .val (.long p1), .second, .val (.long (2 : Int64)), .second, .val (.long (1 : Int64)), .second] [(.long (u_l - (ts.getD (own_aft_r u_s ts).toNatClampNeg 0))), (.ref a)]))
  refine own_go (B := T27.setTop (mkF m 83 #[.val (.ref a), .val (.long p1), .second, .val (.long (2 : Int64)), .second, .val (.long (1 : Int64)), .second] [(.ref a), (.long (u_l - (ts.getD (own_aft_r u_s ts).toNatClampNeg 0))), (.ref a)])) (fun tgt cont => ?_) ?_
  · refine XS.aloadN X27.here hx rfl (hb hby d12_82) rfl rfl ?_
    exact cont
  have f30 := (f25.other W26 (Or.inr (slot_ne (t := (.array .long)) (t' := .int) (Or.inr (hw _ (List.mem_of_getElem? (i := 59) rfl))) (Or.inl (hw _ (List.mem_of_getElem? (i := 81) rfl))) (by decide) (by decide) (by decide))))
  obtain ⟨T29, X29, e29, st29⟩ := getF X27 hx hZ hown (host := "") (Or.inl (hw _ (List.mem_of_getElem? (i := 58) rfl))) Via.refl e27 f30 (g := (mkF m 83 #[.val (.ref a), .val (.long p1), .second, .val (.long (2 : Int64)), .second, .val (.long (1 : Int64)), .second] [(.ref a), (.long (u_l - (ts.getD (own_aft_r u_s ts).toNatClampNeg 0))), (.ref a)])) rfl rfl (hb hby d12_83)
  refine own_go (fun tgt cont => st29 tgt cont) ?_
  show own_Go p e below s (Q_rm12_C2 Z a p1 u_b u_w u_t u_n u_m u_s u_l ts h0 n0) 0 0 (T29.setTop (mkF m 86 #[.val (.ref a), .val (.long p1), .second, .val (.long (2 : Int64)), .second, .val (.long (1 : Int64)), .second] [(.ref u_t), (.long (u_l - (ts.getD (own_aft_r u_s ts).toNatClampNeg 0))), (.ref a)]))
  refine own_go (B := T29.setTop (mkF m 87 #[.val (.ref a), .val (.long p1), .second, .val (.long (2 : Int64)), .second, .val (.long (1 : Int64)), .second] [(.ref a), (.ref u_t), (.long (u_l - (ts.getD (own_aft_r u_s ts).toNatClampNeg 0))), (.ref a)])) (fun tgt cont => ?_) ?_
  · refine XS.aloadN X29.here hx rfl (hb hby d12_86) rfl rfl ?_
    exact cont
  obtain ⟨T31, X31, e31, st31⟩ := getF X29 hx hZ hown (host := "") (Or.inl (hw _ (List.mem_of_getElem? (i := 80) rfl))) Via.refl e29 fw26 (g := (mkF m 87 #[.val (.ref a), .val (.long p1), .second, .val (.long (2 : Int64)), .second, .val (.long (1 : Int64)), .second] [(.ref a), (.ref u_t), (.long (u_l - (ts.getD (own_aft_r u_s ts).toNatClampNeg 0))), (.ref a)])) rfl rfl (hb hby d12_87)
  refine own_go (fun tgt cont => st31 tgt cont) ?_
  show own_Go p e below s (Q_rm12_C2 Z a p1 u_b u_w u_t u_n u_m u_s u_l ts h0 n0) 0 0 (T31.setTop (mkF m 90 #[.val (.ref a), .val (.long p1), .second, .val (.long (2 : Int64)), .second, .val (.long (1 : Int64)), .second] [(.int (own_aft_r (own_aft_r u_s ts) (ts.set (own_aft_r u_s ts).toNatClampNeg (0 : Int64)))), (.ref u_t), (.long (u_l - (ts.getD (own_aft_r u_s ts).toNatClampNeg 0))), (.ref a)]))
  have f32 := (A20.other W26 (Ne.symm ne_a_u_t))
  refine own_go (B := T31.setTop (mkF m 92 #[.val (.ref a), .val (.long p1), .second, .val (.long (2 : Int64)), .second, .val (.long (1 : Int64)), .second] [(.long ((u_l - (ts.getD (own_aft_r u_s ts).toNatClampNeg 0)) - ((ts.set (own_aft_r u_s ts).toNatClampNeg (0 : Int64)).getD (own_aft_r (own_aft_r u_s ts) (ts.set (own_aft_r u_s ts).toNatClampNeg (0 : Int64))).toNatClampNeg 0))), (.ref a)])) (fun tgt cont => ?_) ?_
  · refine own_ldLA X31 hx hZ e31 f32 (j := (own_aft_r (own_aft_r u_s ts) (ts.set (own_aft_r u_s ts).toNatClampNeg (0 : Int64)))) (own_aftB (own_setB (own_aftB hs A_u_t.small)) (own_setS A_u_t.small)) (g := (mkF m 90 #[.val (.ref a), .val (.long p1), .second, .val (.long (2 : Int64)), .second, .val (.long (1 : Int64)), .second] [(.int (own_aft_r (own_aft_r u_s ts) (ts.set (own_aft_r u_s ts).toNatClampNeg (0 : Int64)))), (.ref u_t), (.long (u_l - (ts.getD (own_aft_r u_s ts).toNatClampNeg 0))), (.ref a)])) rfl rfl (hb hby d12_90) ?_
    refine XS.lsub X31.here hx rfl (hb hby d12_91) rfl ?_
    exact cont
  have f34 := (f24.wr W26)
  obtain ⟨T33, h33, X33, e33, W33, st33⟩ := putF X31 hx hZ hown (host := "") (Or.inl (hw _ (List.mem_of_getElem? (i := 82) rfl))) Via.refl e31 f28 f34 (Or.inl (hw _ (List.mem_of_getElem? (i := 83) rfl))) (hw _ (List.mem_of_getElem? (i := 3) rfl)) (ty := .long) (by decide) rfl rfl (g := (mkF m 92 #[.val (.ref a), .val (.long p1), .second, .val (.long (2 : Int64)), .second, .val (.long (1 : Int64)), .second] [(.long ((u_l - (ts.getD (own_aft_r u_s ts).toNatClampNeg 0)) - ((ts.set (own_aft_r u_s ts).toNatClampNeg (0 : Int64)).getD (own_aft_r (own_aft_r u_s ts) (ts.set (own_aft_r u_s ts).toNatClampNeg (0 : Int64))).toNatClampNeg 0))), (.ref a)])) rfl rfl (hb hby d12_92)
  have fw33 := f28.same W33
  have N33 := Fr.snoc X33 N26 g_a
  have kk33 : Keep h0 h33 [a, u_t] := kk26.wr W33 (Or.inl (List.mem_of_getElem? (i := 0) rfl))
  have zp33 : n0 ≤ h33.size := Nat.le_trans Z0 kk33.1
  refine own_go (fun tgt cont => st33 tgt cont) ?_
  show own_Go p e below s (Q_rm12_C2 Z a p1 u_b u_w u_t u_n u_m u_s u_l ts h0 n0) 0 0 (T33.setTop (mkF m 95 #[.val (.ref a), .val (.long p1), .second, .val (.long (2 : Int64)), .second, .val (.long (1 : Int64)), .second] []))
  refine own_go (B := T33.setTop (mkF m 96 #[.val (.ref a), .val (.long p1), .second, .val (.long (2 : Int64)), .second, .val (.long (1 : Int64)), .second] [(.ref a)])) (fun tgt cont => ?_) ?_
  · refine XS.aloadN X33.here hx rfl (hb hby d12_95) rfl rfl ?_
    exact cont
  have f36 := (f30.other W33 (Or.inr (slot_ne (t := (.array .long)) (t' := .long) (Or.inr (hw _ (List.mem_of_getElem? (i := 59) rfl))) (Or.inl (hw _ (List.mem_of_getElem? (i := 83) rfl))) (by decide) (by decide) (by decide))))
  obtain ⟨T35, X35, e35, st35⟩ := getF X33 hx hZ hown (host := "") (Or.inl (hw _ (List.mem_of_getElem? (i := 58) rfl))) Via.refl e33 f36 (g := (mkF m 96 #[.val (.ref a), .val (.long p1), .second, .val (.long (2 : Int64)), .second, .val (.long (1 : Int64)), .second] [(.ref a)])) rfl rfl (hb hby d12_96)
  refine own_go (fun tgt cont => st35 tgt cont) ?_
  show own_Go p e below s (Q_rm12_C2 Z a p1 u_b u_w u_t u_n u_m u_s u_l ts h0 n0) 0 0 (T35.setTop (mkF m 99 #[.val (.ref a), .val (.long p1), .second, .val (.long (2 : Int64)), .second, .val (.long (1 : Int64)), .second] [(.ref u_t)]))
  refine own_go (B := T35.setTop (mkF m 100 #[.val (.ref a), .val (.long p1), .second, .val (.long (2 : Int64)), .second, .val (.long (1 : Int64)), .second] [(.ref a), (.ref u_t)])) (fun tgt cont => ?_) ?_
  · refine XS.aloadN X35.here hx rfl (hb hby d12_99) rfl rfl ?_
    exact cont
  have f38 := (fw26.other W33 (Or.inr (slot_ne (t := .int) (t' := .long) (Or.inl (hw _ (List.mem_of_getElem? (i := 81) rfl))) (Or.inl (hw _ (List.mem_of_getElem? (i := 83) rfl))) (by decide) (by decide) (by decide))))
  obtain ⟨T37, X37, e37, st37⟩ := getF X35 hx hZ hown (host := "") (Or.inl (hw _ (List.mem_of_getElem? (i := 80) rfl))) Via.refl e35 f38 (g := (mkF m 100 #[.val (.ref a), .val (.long p1), .second, .val (.long (2 : Int64)), .second, .val (.long (1 : Int64)), .second] [(.ref a), (.ref u_t)])) rfl rfl (hb hby d12_100)
  refine own_go (fun tgt cont => st37 tgt cont) ?_
  show own_Go p e below s (Q_rm12_C2 Z a p1 u_b u_w u_t u_n u_m u_s u_l ts h0 n0) 0 0 (T37.setTop (mkF m 103 #[.val (.ref a), .val (.long p1), .second, .val (.long (2 : Int64)), .second, .val (.long (1 : Int64)), .second] [(.int (own_aft_r (own_aft_r u_s ts) (ts.set (own_aft_r u_s ts).toNatClampNeg (0 : Int64)))), (.ref u_t)]))
  refine own_go (B := T37.setTop (mkF m 104 #[.val (.ref a), .val (.long p1), .second, .val (.long (2 : Int64)), .second, .val (.long (1 : Int64)), .second] [(.long (0 : Int64)), (.int (own_aft_r (own_aft_r u_s ts) (ts.set (own_aft_r u_s ts).toNatClampNeg (0 : Int64)))), (.ref u_t)])) (fun tgt cont => ?_) ?_
  · refine XT.lconstV X37.here hx rfl (0 : Int64) (hb hby d12_103) rfl ?_
    exact cont
  have f39 := (f32.other W33 (Ne.symm ne_a_u_t))
  obtain ⟨T40, h40, X40, e40, W40, A40, st40⟩ := own_stLA X37 hx hZ e37 f39 (j := (own_aft_r (own_aft_r u_s ts) (ts.set (own_aft_r u_s ts).toNatClampNeg (0 : Int64)))) (x := (0 : Int64)) (own_aftB (own_setB (own_aftB hs A_u_t.small)) (own_setS A_u_t.small)) (g := (mkF m 104 #[.val (.ref a), .val (.long p1), .second, .val (.long (2 : Int64)), .second, .val (.long (1 : Int64)), .second] [(.long (0 : Int64)), (.int (own_aft_r (own_aft_r u_s ts) (ts.set (own_aft_r u_s ts).toNatClampNeg (0 : Int64)))), (.ref u_t)])) rfl rfl (hb hby d12_104)
  have N40 := Fr.snoc X40 N33 g_u_t
  have kk40 : Keep h0 h40 [a, u_t] := kk33.wr W40 (Or.inl (List.mem_of_getElem? (i := 1) rfl))
  have zp40 : n0 ≤ h40.size := Nat.le_trans Z0 kk40.1
  refine own_go (fun tgt cont => st40 tgt cont) ?_
  show own_Go p e below s (Q_rm12_C2 Z a p1 u_b u_w u_t u_n u_m u_s u_l ts h0 n0) 0 0 (T40.setTop (mkF m 105 #[.val (.ref a), .val (.long p1), .second, .val (.long (2 : Int64)), .second, .val (.long (1 : Int64)), .second] []))
  refine own_go (B := T40.setTop (mkF m 115 #[.val (.ref a), .val (.long p1), .second, .val (.long (2 : Int64)), .second, .val (.long (2 : Int64)), .second] [(.ref a)])) (fun tgt cont => ?_) ?_
  · refine XS.lload X40.here hx rfl (hb hby d12_105) rfl ?_
    refine XT.lconstV X40.here hx rfl (1 : Int64) (hb hby d12_107) rfl ?_
    refine XS.ladd X40.here hx rfl (hb hby d12_108) rfl ?_
    refine XS.lstore X40.here hx rfl (hb hby d12_109) rfl (l' := #[.val (.ref a), .val (.long p1), .second, .val (.long (2 : Int64)), .second, .val (.long (2 : Int64)), .second]) rfl ?_
    refine XS.goto X40.here hx rfl (pc0 := 111) (pc' := 58) rfl (hb hby d12_111) (by decide) (by decide) ?_
    refine XS.lload X40.here hx rfl (hb hby d12_58) rfl ?_
    refine XS.lloadN X40.here hx rfl (hb hby d12_60) rfl ?_
    refine XT.lcmp X40.here hx rfl (hb hby d12_61) rfl ?_
    refine XS.ifYes X40.here hx rfl (pc0 := 62) (pc' := 114) rfl (hb hby d12_62) rfl (XT.ll_ge_t (by decide)) (by decide) (by decide) ?_
    refine XS.aloadN X40.here hx rfl (hb hby d12_114) rfl rfl ?_
    exact cont
  refine own_go (B := T40.setTop (mkF m 116 #[.val (.ref a), .val (.long p1), .second, .val (.long (2 : Int64)), .second, .val (.long (2 : Int64)), .second] [(.ref a), (.ref a)])) (fun tgt cont => ?_) ?_
  · refine XS.dup X40.here hx rfl (hb hby d12_115) rfl rfl ?_
    exact cont
  have f42 := ((((((F_a_newest.other W6 (Or.inr (slot_ne (t := .long) (t' := .int) (Or.inl (hw _ (List.mem_of_getElem? (i := 66) rfl))) (Or.inl (hw _ (List.mem_of_getElem? (i := 81) rfl))) (by decide) (by decide) (by decide)))).other W13 (Or.inr (slot_ne (t := .long) (t' := .long) (Or.inl (hw _ (List.mem_of_getElem? (i := 66) rfl))) (Or.inl (hw _ (List.mem_of_getElem? (i := 83) rfl))) (by decide) (by decide) (by decide)))).other W20 (Or.inl ne_a_u_t)).other W26 (Or.inr (slot_ne (t := .long) (t' := .int) (Or.inl (hw _ (List.mem_of_getElem? (i := 66) rfl))) (Or.inl (hw _ (List.mem_of_getElem? (i := 81) rfl))) (by decide) (by decide) (by decide)))).other W33 (Or.inr (slot_ne (t := .long) (t' := .long) (Or.inl (hw _ (List.mem_of_getElem? (i := 66) rfl))) (Or.inl (hw _ (List.mem_of_getElem? (i := 83) rfl))) (by decide) (by decide) (by decide)))).other W40 (Or.inl ne_a_u_t))
  obtain ⟨T41, X41, e41, st41⟩ := getF X40 hx hZ hown (host := "") (Or.inl (hw _ (List.mem_of_getElem? (i := 65) rfl))) Via.refl e40 f42 (g := (mkF m 116 #[.val (.ref a), .val (.long p1), .second, .val (.long (2 : Int64)), .second, .val (.long (2 : Int64)), .second] [(.ref a), (.ref a)])) rfl rfl (hb hby d12_116)
  refine own_go (fun tgt cont => st41 tgt cont) ?_
  show own_Go p e below s (Q_rm12_C2 Z a p1 u_b u_w u_t u_n u_m u_s u_l ts h0 n0) 0 0 (T41.setTop (mkF m 119 #[.val (.ref a), .val (.long p1), .second, .val (.long (2 : Int64)), .second, .val (.long (2 : Int64)), .second] [(.long u_n), (.ref a)]))
  refine own_go (B := T41.setTop (mkF m 121 #[.val (.ref a), .val (.long p1), .second, .val (.long (2 : Int64)), .second, .val (.long (2 : Int64)), .second] [(.ref a), (.long (2 : Int64)), (.long u_n), (.ref a)])) (fun tgt cont => ?_) ?_
  · refine XS.lloadN X41.here hx rfl (hb hby d12_119) rfl ?_
    refine XS.aloadN X41.here hx rfl (hb hby d12_120) rfl rfl ?_
    exact cont
  have f44 := ((((((F_a_bucket.other W6 (Or.inr (slot_ne (t := .long) (t' := .int) (Or.inr (hw _ (List.mem_of_getElem? (i := 44) rfl))) (Or.inl (hw _ (List.mem_of_getElem? (i := 81) rfl))) (by decide) (by decide) (by decide)))).other W13 (Or.inr (slot_ne (t := .long) (t' := .long) (Or.inr (hw _ (List.mem_of_getElem? (i := 44) rfl))) (Or.inl (hw _ (List.mem_of_getElem? (i := 83) rfl))) (by decide) (by decide) (by decide)))).other W20 (Or.inl ne_a_u_t)).other W26 (Or.inr (slot_ne (t := .long) (t' := .int) (Or.inr (hw _ (List.mem_of_getElem? (i := 44) rfl))) (Or.inl (hw _ (List.mem_of_getElem? (i := 81) rfl))) (by decide) (by decide) (by decide)))).other W33 (Or.inr (slot_ne (t := .long) (t' := .long) (Or.inr (hw _ (List.mem_of_getElem? (i := 44) rfl))) (Or.inl (hw _ (List.mem_of_getElem? (i := 83) rfl))) (by decide) (by decide) (by decide)))).other W40 (Or.inl ne_a_u_t))
  obtain ⟨T43, X43, e43, st43⟩ := getF X41 hx hZ hown (host := "") (Or.inl (hw _ (List.mem_of_getElem? (i := 43) rfl))) Via.refl e41 f44 (g := (mkF m 121 #[.val (.ref a), .val (.long p1), .second, .val (.long (2 : Int64)), .second, .val (.long (2 : Int64)), .second] [(.ref a), (.long (2 : Int64)), (.long u_n), (.ref a)])) rfl rfl (hb hby d12_121)
  refine own_go (fun tgt cont => st43 tgt cont) ?_
  show own_Go p e below s (Q_rm12_C2 Z a p1 u_b u_w u_t u_n u_m u_s u_l ts h0 n0) 0 0 (T43.setTop (mkF m 124 #[.val (.ref a), .val (.long p1), .second, .val (.long (2 : Int64)), .second, .val (.long (2 : Int64)), .second] [(.long u_b), (.long (2 : Int64)), (.long u_n), (.ref a)]))
  refine own_go (B := T43.setTop (mkF m 126 #[.val (.ref a), .val (.long p1), .second, .val (.long (2 : Int64)), .second, .val (.long (2 : Int64)), .second] [(.long (u_n + ((2 : Int64) * u_b))), (.ref a)])) (fun tgt cont => ?_) ?_
  · refine XS.lmul X43.here hx rfl (hb hby d12_124) rfl ?_
    refine XS.ladd X43.here hx rfl (hb hby d12_125) rfl ?_
    exact cont
  have f46 := ((f34.wr W33).wr W40)
  obtain ⟨T45, h45, X45, e45, W45, st45⟩ := putF X43 hx hZ hown (host := "") (Or.inl (hw _ (List.mem_of_getElem? (i := 65) rfl))) Via.refl e43 f42 f46 (Or.inl (hw _ (List.mem_of_getElem? (i := 66) rfl))) (hw _ (List.mem_of_getElem? (i := 3) rfl)) (ty := .long) (by decide) rfl rfl (g := (mkF m 126 #[.val (.ref a), .val (.long p1), .second, .val (.long (2 : Int64)), .second, .val (.long (2 : Int64)), .second] [(.long (u_n + ((2 : Int64) * u_b))), (.ref a)])) rfl rfl (hb hby d12_126)
  have fw45 := f42.same W45
  have N45 := Fr.snoc X45 N40 g_a
  have kk45 : Keep h0 h45 [a, u_t] := kk40.wr W45 (Or.inl (List.mem_of_getElem? (i := 0) rfl))
  have zp45 : n0 ≤ h45.size := Nat.le_trans Z0 kk45.1
  refine own_go (fun tgt cont => st45 tgt cont) ?_
  show own_Go p e below s (Q_rm12_C2 Z a p1 u_b u_w u_t u_n u_m u_s u_l ts h0 n0) 0 0 (T45.setTop (mkF m 129 #[.val (.ref a), .val (.long p1), .second, .val (.long (2 : Int64)), .second, .val (.long (2 : Int64)), .second] []))
  refine own_go (B := T45.setTop (mkF m 131 #[.val (.ref a), .val (.long p1), .second, .val (.long (2 : Int64)), .second, .val (.long (2 : Int64)), .second] [(.ref a), (.ref a)])) (fun tgt cont => ?_) ?_
  · refine XS.aloadN X45.here hx rfl (hb hby d12_129) rfl rfl ?_
    refine XS.dup X45.here hx rfl (hb hby d12_130) rfl rfl ?_
    exact cont
  have f48 := (((((((F_a_newestNumber.other W6 (Or.inr (slot_ne (t := .long) (t' := .int) (Or.inl (hw _ (List.mem_of_getElem? (i := 113) rfl))) (Or.inl (hw _ (List.mem_of_getElem? (i := 81) rfl))) (by decide) (by decide) (by decide)))).other W13 (Or.inr (slot_ne (t := .long) (t' := .long) (Or.inl (hw _ (List.mem_of_getElem? (i := 113) rfl))) (Or.inl (hw _ (List.mem_of_getElem? (i := 83) rfl))) (by decide) (by decide) (by decide)))).other W20 (Or.inl ne_a_u_t)).other W26 (Or.inr (slot_ne (t := .long) (t' := .int) (Or.inl (hw _ (List.mem_of_getElem? (i := 113) rfl))) (Or.inl (hw _ (List.mem_of_getElem? (i := 81) rfl))) (by decide) (by decide) (by decide)))).other W33 (Or.inr (slot_ne (t := .long) (t' := .long) (Or.inl (hw _ (List.mem_of_getElem? (i := 113) rfl))) (Or.inl (hw _ (List.mem_of_getElem? (i := 83) rfl))) (by decide) (by decide) (by decide)))).other W40 (Or.inl ne_a_u_t)).other W45 (Or.inr (slot_ne (t := .long) (t' := .long) (Or.inl (hw _ (List.mem_of_getElem? (i := 113) rfl))) (Or.inl (hw _ (List.mem_of_getElem? (i := 66) rfl))) (by decide) (by decide) (by decide))))
  obtain ⟨T47, X47, e47, st47⟩ := getF X45 hx hZ hown (host := "") (Or.inl (hw _ (List.mem_of_getElem? (i := 112) rfl))) Via.refl e45 f48 (g := (mkF m 131 #[.val (.ref a), .val (.long p1), .second, .val (.long (2 : Int64)), .second, .val (.long (2 : Int64)), .second] [(.ref a), (.ref a)])) rfl rfl (hb hby d12_131)
  refine own_go (fun tgt cont => st47 tgt cont) ?_
  show own_Go p e below s (Q_rm12_C2 Z a p1 u_b u_w u_t u_n u_m u_s u_l ts h0 n0) 0 0 (T47.setTop (mkF m 134 #[.val (.ref a), .val (.long p1), .second, .val (.long (2 : Int64)), .second, .val (.long (2 : Int64)), .second] [(.long u_m), (.ref a)]))
  refine own_go (B := T47.setTop (mkF m 136 #[.val (.ref a), .val (.long p1), .second, .val (.long (2 : Int64)), .second, .val (.long (2 : Int64)), .second] [(.long (u_m + (2 : Int64))), (.ref a)])) (fun tgt cont => ?_) ?_
  · refine XS.lloadN X47.here hx rfl (hb hby d12_134) rfl ?_
    refine XS.ladd X47.here hx rfl (hb hby d12_135) rfl ?_
    exact cont
  have f50 := (f46.wr W45)
  obtain ⟨T49, h49, X49, e49, W49, st49⟩ := putF X47 hx hZ hown (host := "") (Or.inl (hw _ (List.mem_of_getElem? (i := 112) rfl))) Via.refl e47 f48 f50 (Or.inl (hw _ (List.mem_of_getElem? (i := 113) rfl))) (hw _ (List.mem_of_getElem? (i := 3) rfl)) (ty := .long) (by decide) rfl rfl (g := (mkF m 136 #[.val (.ref a), .val (.long p1), .second, .val (.long (2 : Int64)), .second, .val (.long (2 : Int64)), .second] [(.long (u_m + (2 : Int64))), (.ref a)])) rfl rfl (hb hby d12_136)
  have fw49 := f48.same W49
  have N49 := Fr.snoc X49 N45 g_a
  have kk49 : Keep h0 h49 [a, u_t] := kk45.wr W49 (Or.inl (List.mem_of_getElem? (i := 0) rfl))
  have zp49 : n0 ≤ h49.size := Nat.le_trans Z0 kk49.1
  refine own_go (fun tgt cont => st49 tgt cont) ?_
  show own_Go p e below s (Q_rm12_C2 Z a p1 u_b u_w u_t u_n u_m u_s u_l ts h0 n0) 0 0 (T49.setTop (mkF m 139 #[.val (.ref a), .val (.long p1), .second, .val (.long (2 : Int64)), .second, .val (.long (2 : Int64)), .second] []))
  refine own_end X49 (v := none) (fun _ => rfl) hlk ?_ (by decide) (by decide) (fun fs hl => X49.returnOut hx Bd.returns (hb hby d12_139) hl)
  have f51 := (f50.wr W49)
  have f52 := ((f44.other W45 (Or.inr (slot_ne (t := .long) (t' := .long) (Or.inr (hw _ (List.mem_of_getElem? (i := 44) rfl))) (Or.inl (hw _ (List.mem_of_getElem? (i := 66) rfl))) (by decide) (by decide) (by decide)))).other W49 (Or.inr (slot_ne (t := .long) (t' := .long) (Or.inr (hw _ (List.mem_of_getElem? (i := 44) rfl))) (Or.inl (hw _ (List.mem_of_getElem? (i := 113) rfl))) (by decide) (by decide) (by decide))))
  have f53 := ((((((((F_a_window.other W6 (Or.inr (slot_ne (t := .long) (t' := .int) (Or.inr (hw _ (List.mem_of_getElem? (i := 51) rfl))) (Or.inl (hw _ (List.mem_of_getElem? (i := 81) rfl))) (by decide) (by decide) (by decide)))).other W13 (Or.inr (slot_ne (t := .long) (t' := .long) (Or.inr (hw _ (List.mem_of_getElem? (i := 51) rfl))) (Or.inl (hw _ (List.mem_of_getElem? (i := 83) rfl))) (by decide) (by decide) (by decide)))).other W20 (Or.inl ne_a_u_t)).other W26 (Or.inr (slot_ne (t := .long) (t' := .int) (Or.inr (hw _ (List.mem_of_getElem? (i := 51) rfl))) (Or.inl (hw _ (List.mem_of_getElem? (i := 81) rfl))) (by decide) (by decide) (by decide)))).other W33 (Or.inr (slot_ne (t := .long) (t' := .long) (Or.inr (hw _ (List.mem_of_getElem? (i := 51) rfl))) (Or.inl (hw _ (List.mem_of_getElem? (i := 83) rfl))) (by decide) (by decide) (by decide)))).other W40 (Or.inl ne_a_u_t)).other W45 (Or.inr (slot_ne (t := .long) (t' := .long) (Or.inr (hw _ (List.mem_of_getElem? (i := 51) rfl))) (Or.inl (hw _ (List.mem_of_getElem? (i := 66) rfl))) (by decide) (by decide) (by decide)))).other W49 (Or.inr (slot_ne (t := .long) (t' := .long) (Or.inr (hw _ (List.mem_of_getElem? (i := 51) rfl))) (Or.inl (hw _ (List.mem_of_getElem? (i := 113) rfl))) (by decide) (by decide) (by decide))))
  have f54 := (((f36.other W40 (Or.inl ne_a_u_t)).other W45 (Or.inr (slot_ne (t := (.array .long)) (t' := .long) (Or.inr (hw _ (List.mem_of_getElem? (i := 59) rfl))) (Or.inl (hw _ (List.mem_of_getElem? (i := 66) rfl))) (by decide) (by decide) (by decide)))).other W49 (Or.inr (slot_ne (t := (.array .long)) (t' := .long) (Or.inr (hw _ (List.mem_of_getElem? (i := 59) rfl))) (Or.inl (hw _ (List.mem_of_getElem? (i := 113) rfl))) (by decide) (by decide) (by decide))))
  have f55 := (fw45.other W49 (Or.inr (slot_ne (t := .long) (t' := .long) (Or.inl (hw _ (List.mem_of_getElem? (i := 66) rfl))) (Or.inl (hw _ (List.mem_of_getElem? (i := 113) rfl))) (by decide) (by decide) (by decide))))
  have f56 := (((f38.other W40 (Or.inl ne_a_u_t)).other W45 (Or.inr (slot_ne (t := .int) (t' := .long) (Or.inl (hw _ (List.mem_of_getElem? (i := 81) rfl))) (Or.inl (hw _ (List.mem_of_getElem? (i := 66) rfl))) (by decide) (by decide) (by decide)))).other W49 (Or.inr (slot_ne (t := .int) (t' := .long) (Or.inl (hw _ (List.mem_of_getElem? (i := 81) rfl))) (Or.inl (hw _ (List.mem_of_getElem? (i := 113) rfl))) (by decide) (by decide) (by decide))))
  have f57 := (((fw33.other W40 (Or.inl ne_a_u_t)).other W45 (Or.inr (slot_ne (t := .long) (t' := .long) (Or.inl (hw _ (List.mem_of_getElem? (i := 83) rfl))) (Or.inl (hw _ (List.mem_of_getElem? (i := 66) rfl))) (by decide) (by decide) (by decide)))).other W49 (Or.inr (slot_ne (t := .long) (t' := .long) (Or.inl (hw _ (List.mem_of_getElem? (i := 83) rfl))) (Or.inl (hw _ (List.mem_of_getElem? (i := 113) rfl))) (by decide) (by decide) (by decide))))
  have f58 := ((A40.other W45 (Ne.symm ne_a_u_t)).other W49 (Ne.symm ne_a_u_t))
  rw [e49]
  exact ⟨rfl, N49, kk49, f51, f52, f53, f54, (by unfold own_mvC2_newest; exact f55), (by unfold own_mvC2_newestNumber; exact fw49), (by unfold own_mvC2_newestSlot; exact f56), (by unfold own_mvC2_load; exact f57), (by unfold own_mvC2_ts; exact f58)⟩
def own_adC2_newest (u_b : Int64) (u_n : Int64) : Int64 := (own_mvC2_newest u_b u_n)
def own_adC2_newestNumber (u_m : Int64) : Int64 := (own_mvC2_newestNumber u_m)
def own_adC2_newestSlot (u_s : Int32) (ts : List Int64) : Int32 := (own_mvC2_newestSlot u_s ts)
def own_adC2_load (u_s : Int32) (u_l : Int64) (ts : List Int64) : Int64 := (own_mvC2_load u_s u_l ts)
def own_adC2_ts (u_s : Int32) (ts : List Int64) : List Int64 := (own_mvC2_ts u_s ts)
def Q_rm8_C2 (Z : State) (a : Addr) (p1 : Int64) (u_b : Int64) (u_w : Int64) (u_t : Addr) (u_n : Int64) (u_m : Int64) (u_s : Int32) (u_l : Int64) (ts : List Int64) (h0 : Heap) (n0 : Nat) (v : Option Value) (h : Heap) (L : List Loc) : Prop := v = none ∧ Fr n0 L ∧ Keep h0 h [a, u_t] ∧ Exa Z h a "com/example/eschborn/eschborn/engine/BucketWindow" ∧ Fld Z h a "com/example/eschborn/eschborn/engine/BucketWindow" "bucket" "J" (.long u_b) ∧ Fld Z h a "com/example/eschborn/eschborn/engine/BucketWindow" "window" "J" (.long u_w) ∧ Fld Z h a "com/example/eschborn/eschborn/engine/BucketWindow" "totals" "[J" (.ref u_t) ∧ Fld Z h a "com/example/eschborn/eschborn/engine/BucketWindow" "newest" "J" (.long (own_adC2_newest u_b u_n)) ∧ Fld Z h a "com/example/eschborn/eschborn/engine/BucketWindow" "newestNumber" "J" (.long (own_adC2_newestNumber u_m)) ∧ Fld Z h a "com/example/eschborn/eschborn/engine/BucketWindow" "newestSlot" "I" (.int (own_adC2_newestSlot u_s ts)) ∧ Fld Z h a "com/example/eschborn/eschborn/engine/BucketWindow" "load" "J" (.long (own_adC2_load u_s u_l ts)) ∧ own_LA Z h u_t (own_adC2_ts u_s ts)
set_option maxRecDepth 65536 in
set_option maxHeartbeats 40000000 in
theorem rm8_C2 (l : Launch) (Z : State) (a0 : Array Value) (hw : ∀ d ∈ tables_1, d.before a0 Z = true) (ws : List Jvm.Cond) (a : Addr) (p1 : Int64) (u_b : Int64) (u_w : Int64) (u_t : Addr) (u_n : Int64) (u_m : Int64) (u_s : Int32) (u_l : Int64) (ts : List Int64) (h0 : Heap) (n0 : Nat) (Z0 : n0 ≤ h0.size) (E_a : Exa Z h0 a "com/example/eschborn/eschborn/engine/BucketWindow") (F_a_bucket : Fld Z h0 a "com/example/eschborn/eschborn/engine/BucketWindow" "bucket" "J" (.long u_b)) (F_a_window : Fld Z h0 a "com/example/eschborn/eschborn/engine/BucketWindow" "window" "J" (.long u_w)) (F_a_totals : Fld Z h0 a "com/example/eschborn/eschborn/engine/BucketWindow" "totals" "[J" (.ref u_t)) (F_a_newest : Fld Z h0 a "com/example/eschborn/eschborn/engine/BucketWindow" "newest" "J" (.long u_n)) (F_a_newestNumber : Fld Z h0 a "com/example/eschborn/eschborn/engine/BucketWindow" "newestNumber" "J" (.long u_m)) (F_a_newestSlot : Fld Z h0 a "com/example/eschborn/eschborn/engine/BucketWindow" "newestSlot" "I" (.int u_s)) (F_a_load : Fld Z h0 a "com/example/eschborn/eschborn/engine/BucketWindow" "load" "J" (.long u_l)) (g_a : n0 ≤ a) (A_u_t : own_LA Z h0 u_t ts) (g_u_t : n0 ≤ u_t) (hm : ¬ own_cmpU (p1 - u_n) u_b < 0) (hnz : u_b ≠ 0) (hl : ¬ u_l = (0 : Int64)) (hk : (own_pas_r p1 u_b u_w u_n ts) = (2 : Int64)) (hn : ¬ (2 : Int64) = (Int32.ofNat ts.length).toInt64) (hs : ¬ u_s < 0 ∧ u_s.toNatClampNeg < ts.length) :
    MetFree l (⟨"com/example/eschborn/eschborn/engine/BucketWindow", "advance", "(J)V"⟩ : MethodName) (head1 (Jvm.Cond.code (⟨"com/example/eschborn/eschborn/engine/BucketWindow", "advance", "(J)V"⟩ : MethodName) prog_1_method_2_code 3 none :: ws) ({ frames := 4, cells := 0, slots := 0, locals := 66 } : Room)) (fun aa U => aa = #[(.ref a), (.long p1)] ∧ Z.Warmed39 U.vm ∧ U.heap = h0) (fun _ _ _ _ _ => True) (fun _ U o U' => ∃ v L, o = .returned v ∧ Q_rm8_C2 Z a p1 u_b u_w u_t u_n u_m u_s u_l ts h0 n0 v U'.heap L ∧ FrameEnd U o U' L ({ frames := 4, cells := 0, slots := 0, locals := 66 } : Room).cells ({ frames := 4, cells := 0, slots := 0, locals := 66 } : Room).slots) := by
  refine MetFree.of_bodySF (plainFor_of_name own_pn3) hisR ?_
  intro p e s m args below meth c s₁ Bd hml0 hP hK
  obtain ⟨rfl, hZ, hh⟩ := hP
  have hx := Bd.exec
  have hby := Bd.bytes
  have hml : c.maxLocals = 3 := hml0
  have hlk : meth.locks = false := BodyLoose.notSynchronized Bd
  have hown : s.vm.findClass "com/example/eschborn/eschborn/engine/BucketWindow" = some m.cls := findClass_of_methodNamed Bd.named
  have hnm := (name_of_methodNamed Bd.named Bd.method).1
  have X0 : Stand p l e ({ frames := 4, cells := 0, slots := 0, locals := 66 } : Room) s m #[(.ref a), (.long p1)] below meth c s₁ [] 0 0 := Stand.of_body Bd
  have e0 : s₁.heap = h0 := by rw [← hh, Bd.state]; rfl
  have N0 := Fr.nil n0
  show own_Go p e below s (Q_rm8_C2 Z a p1 u_b u_w u_t u_n u_m u_s u_l ts h0 n0) 0 0 (s₁.setTop (entryFrame m #[(.ref a), (.long p1)] 3))
  refine own_go (B := s₁.setTop (mkF m 0 #[.val (.ref a), .val (.long p1), .second] [])) (fun tgt cont => (XT.entry rfl).trans cont) ?_
  have ne_a_u_t := own_neA E_a (hw _ (List.mem_of_getElem? (i := 3) rfl)) A_u_t.arr
  refine own_go (B := s₁.setTop (mkF m 2 #[.val (.ref a), .val (.long p1), .second] [(.ref a), (.long p1)])) (fun tgt cont => ?_) ?_
  · refine XS.lloadN X0.here hx rfl (hb hby d8_0) rfl ?_
    refine XS.aloadN X0.here hx rfl (hb hby d8_1) rfl rfl ?_
    exact cont
  obtain ⟨T1, X1, e1, st1⟩ := getF X0 hx hZ hown (host := "") (Or.inl (hw _ (List.mem_of_getElem? (i := 65) rfl))) Via.refl e0 F_a_newest (g := (mkF m 2 #[.val (.ref a), .val (.long p1), .second] [(.ref a), (.long p1)])) rfl rfl (hb hby d8_2)
  refine own_go (fun tgt cont => st1 tgt cont) ?_
  show own_Go p e below s (Q_rm8_C2 Z a p1 u_b u_w u_t u_n u_m u_s u_l ts h0 n0) 0 0 (T1.setTop (mkF m 5 #[.val (.ref a), .val (.long p1), .second] [(.long u_n), (.long p1)]))
  refine own_go (B := T1.setTop (mkF m 7 #[.val (.ref a), .val (.long p1), .second] [(.ref a), (.long (p1 - u_n))])) (fun tgt cont => ?_) ?_
  · refine XS.lsub X1.here hx rfl (hb hby d8_5) rfl ?_
    refine XS.aloadN X1.here hx rfl (hb hby d8_6) rfl rfl ?_
    exact cont
  obtain ⟨T2, X2, e2, st2⟩ := getF X1 hx hZ hown (host := "") (Or.inl (hw _ (List.mem_of_getElem? (i := 43) rfl))) Via.refl e1 F_a_bucket (g := (mkF m 7 #[.val (.ref a), .val (.long p1), .second] [(.ref a), (.long (p1 - u_n))])) rfl rfl (hb hby d8_7)
  refine own_go (fun tgt cont => st2 tgt cont) ?_
  show own_Go p e below s (Q_rm8_C2 Z a p1 u_b u_w u_t u_n u_m u_s u_l ts h0 n0) 0 0 (T2.setTop (mkF m 10 #[.val (.ref a), .val (.long p1), .second] [(.long u_b), (.long (p1 - u_n))]))
  -- pc 10: Long.compareUnsigned
  obtain ⟨_, _, ⟨T3, L3, k3, n3⟩, -, X3, ⟨Lc3, hQ3, l3, y3, z3⟩, st3⟩ := Jvm.LawKit.callS X2 hx (y := (⟨"java/lang/Long", "compareUnsigned", "(JJ)I"⟩ : MethodName)) hown (mvT hZ (hw _ (List.mem_of_getElem? (i := 67) rfl))) (mvT hZ (hw _ (List.mem_of_getElem? (i := 68) rfl))) (mvT hZ (hw _ (List.mem_of_getElem? (i := 69) rfl))) (mvT hZ (hw _ (List.mem_of_getElem? (i := 70) rfl))) (by decide) (backOf (W := 0) (rm9 l Z a0 hw [] (p1 - u_n) u_b h0 n0 Z0 ) hZ (hw _ (List.mem_of_getElem? (i := 70) rfl)) (hw _ (List.mem_of_getElem? (i := 69) rfl)) (by decide) (by decide)) (g := (mkF m 10 #[.val (.ref a), .val (.long p1), .second] [(.long u_b), (.long (p1 - u_n))])) rfl (by rw [hml]; rfl) (argsL := [(.long (p1 - u_n)), (.long u_b)]) (rest := []) (lenOf own_pd1 rfl) rfl (by show 2 * 0 + _ ≤ _; exact Nat.le_of_eq rfl) (hb hby d8_10) (fun _ _ => ⟨rfl, e2, (by decide : 0 + 0 ≤ _), (by decide : 0 + 0 ≤ _)⟩)
  dsimp only [Pt.U, Pt.locs, Pt.cells, Pt.slots] at X3 l3 y3 z3 st3 hQ3
  subst l3 y3 z3
  obtain ⟨rfl, N3q, e3⟩ := hQ3
  have N3 := Fr.app N0 N3q
  refine own_go (fun tgt cont => st3 tgt cont) ?_
  show own_Go p e below s (Q_rm8_C2 Z a p1 u_b u_w u_t u_n u_m u_s u_l ts h0 n0) 0 0 (T3.setTop (mkF m 13 #[.val (.ref a), .val (.long p1), .second] [(.int (own_cmpU (p1 - u_n) u_b))]))
  refine own_go (B := T3.setTop (mkF m 18 #[.val (.ref a), .val (.long p1), .second] [(.long p1), (.ref a)])) (fun tgt cont => ?_) ?_
  · refine XS.ifNo X3.here hx rfl (hb hby d8_13) rfl (XT.i0_lt_f hm) ?_
    refine XS.aloadN X3.here hx rfl (hb hby d8_16) rfl rfl ?_
    refine XS.lloadN X3.here hx rfl (hb hby d8_17) rfl ?_
    exact cont
  -- pc 18: BucketWindow.moveOn
  obtain ⟨cc4, ca4, cb4⟩ := E_a.cell
  obtain ⟨_, _, ⟨T4, L4, k4, n4⟩, -, X4, ⟨Lc4, hQ4, l4, y4, z4⟩, st4⟩ := X3.privateBack hx (y := (⟨"com/example/eschborn/eschborn/engine/BucketWindow", "moveOn", "(J)V"⟩ : MethodName)) hown (mvT hZ (hw _ (List.mem_of_getElem? (i := 84) rfl))) (mvT hZ (hw _ (List.mem_of_getElem? (i := 85) rfl))) (own_selP hZ (hw _ (List.mem_of_getElem? (i := 3) rfl)) (hw _ (List.mem_of_getElem? (i := 85) rfl)) (hw _ (List.mem_of_getElem? (i := 86) rfl))) (Cond.privateMethod_at (mvP hZ (hw _ (List.mem_of_getElem? (i := 86) rfl)) (args := #[]))) (mvT hZ (hw _ (List.mem_of_getElem? (i := 87) rfl))) (by decide) (backOf (W := 0) (rm12_C2 l Z a0 hw [] a p1 u_b u_w u_t u_n u_m u_s u_l ts h0 n0 Z0 E_a F_a_bucket F_a_window F_a_totals F_a_newest F_a_newestNumber F_a_newestSlot F_a_load g_a A_u_t g_u_t hnz hl hk hn hs) hZ (hw _ (List.mem_of_getElem? (i := 87) rfl)) (hw _ (List.mem_of_getElem? (i := 4) rfl)) (by decide) (by decide)) (g := (mkF m 18 #[.val (.ref a), .val (.long p1), .second] [(.long p1), (.ref a)])) rfl (by rw [hml]; rfl) (Steps.refl _) (a := a) (by rw [e3]; exact ca4) cb4 (argsL := [(.long p1)]) (rest := []) (lenOf own_pd7 rfl) rfl (by show 2 * 0 + _ ≤ _; exact Nat.le_of_eq rfl) (hb hby d8_18) (fun _ _ => ⟨rfl, e3, (by decide : 0 + 0 + 0 ≤ _), (by decide : 0 + 0 + 0 ≤ _)⟩)
  dsimp only [Pt.U, Pt.locs, Pt.cells, Pt.slots] at X4 l4 y4 z4 st4 hQ4
  subst l4 y4 z4
  obtain ⟨rfl, N4q, K4, ex4_0, fa4_0, fa4_1, fa4_2, fa4_3, fa4_4, fa4_5, fa4_6, fa4_7⟩ := hQ4
  have N4 := Fr.app N3 N4q
  have kk4 : Keep h0 T4.heap [a, u_t] := (Keep.refl h0 [a, u_t]).trans K4 (allS (Or.inl (List.mem_of_getElem? (i := 0) rfl)) (allS (Or.inl (List.mem_of_getElem? (i := 1) rfl)) all0))
  have zp4 : n0 ≤ T4.heap.size := Nat.le_trans Z0 kk4.1
  refine own_go (fun tgt cont => st4.trans cont) ?_
  show own_Go p e below s (Q_rm8_C2 Z a p1 u_b u_w u_t u_n u_m u_s u_l ts h0 n0) 0 0 (T4.setTop (mkF m 21 #[.val (.ref a), .val (.long p1), .second] []))
  refine own_end X4 (v := none) (fun _ => rfl) hlk ?_ (by decide) (by decide) (fun fs hl => X4.returnOut hx Bd.returns (hb hby d8_21) hl)
  exact ⟨rfl, N4, kk4, ex4_0, fa4_0, fa4_1, fa4_2, (by unfold own_adC2_newest; exact fa4_3), (by unfold own_adC2_newestNumber; exact fa4_4), (by unfold own_adC2_newestSlot; exact fa4_5), (by unfold own_adC2_load; exact fa4_6), (by unfold own_adC2_ts; exact fa4_7)⟩
def own_mvC3_newest (u_b : Int64) (u_n : Int64) : Int64 := (u_n + ((3 : Int64) * u_b))
def own_mvC3_newestNumber (u_m : Int64) : Int64 := (u_m + (3 : Int64))
def own_mvC3_newestSlot (u_s : Int32) (ts : List Int64) : Int32 := (own_aft_r (own_aft_r (own_aft_r u_s ts) (ts.set (own_aft_r u_s ts).toNatClampNeg (0 : Int64))) ((ts.set (own_aft_r u_s ts).toNatClampNeg (0 : Int64)).set (own_aft_r (own_aft_r u_s ts) (ts.set (own_aft_r u_s ts).toNatClampNeg (0 : Int64))).toNatClampNeg (0 : Int64)))
def own_mvC3_load (u_s : Int32) (u_l : Int64) (ts : List Int64) : Int64 := (((u_l - (ts.getD (own_aft_r u_s ts).toNatClampNeg 0)) - ((ts.set (own_aft_r u_s ts).toNatClampNeg (0 : Int64)).getD (own_aft_r (own_aft_r u_s ts) (ts.set (own_aft_r u_s ts).toNatClampNeg (0 : Int64))).toNatClampNeg 0)) - (((ts.set (own_aft_r u_s ts).toNatClampNeg (0 : Int64)).set (own_aft_r (own_aft_r u_s ts) (ts.set (own_aft_r u_s ts).toNatClampNeg (0 : Int64))).toNatClampNeg (0 : Int64)).getD (own_aft_r (own_aft_r (own_aft_r u_s ts) (ts.set (own_aft_r u_s ts).toNatClampNeg (0 : Int64))) ((ts.set (own_aft_r u_s ts).toNatClampNeg (0 : Int64)).set (own_aft_r (own_aft_r u_s ts) (ts.set (own_aft_r u_s ts).toNatClampNeg (0 : Int64))).toNatClampNeg (0 : Int64))).toNatClampNeg 0))
def own_mvC3_ts (u_s : Int32) (ts : List Int64) : List Int64 := (((ts.set (own_aft_r u_s ts).toNatClampNeg (0 : Int64)).set (own_aft_r (own_aft_r u_s ts) (ts.set (own_aft_r u_s ts).toNatClampNeg (0 : Int64))).toNatClampNeg (0 : Int64)).set (own_aft_r (own_aft_r (own_aft_r u_s ts) (ts.set (own_aft_r u_s ts).toNatClampNeg (0 : Int64))) ((ts.set (own_aft_r u_s ts).toNatClampNeg (0 : Int64)).set (own_aft_r (own_aft_r u_s ts) (ts.set (own_aft_r u_s ts).toNatClampNeg (0 : Int64))).toNatClampNeg (0 : Int64))).toNatClampNeg (0 : Int64))
def Q_rm12_C3 (Z : State) (a : Addr) (p1 : Int64) (u_b : Int64) (u_w : Int64) (u_t : Addr) (u_n : Int64) (u_m : Int64) (u_s : Int32) (u_l : Int64) (ts : List Int64) (h0 : Heap) (n0 : Nat) (v : Option Value) (h : Heap) (L : List Loc) : Prop := v = none ∧ Fr n0 L ∧ Keep h0 h [a, u_t] ∧ Exa Z h a "com/example/eschborn/eschborn/engine/BucketWindow" ∧ Fld Z h a "com/example/eschborn/eschborn/engine/BucketWindow" "bucket" "J" (.long u_b) ∧ Fld Z h a "com/example/eschborn/eschborn/engine/BucketWindow" "window" "J" (.long u_w) ∧ Fld Z h a "com/example/eschborn/eschborn/engine/BucketWindow" "totals" "[J" (.ref u_t) ∧ Fld Z h a "com/example/eschborn/eschborn/engine/BucketWindow" "newest" "J" (.long (own_mvC3_newest u_b u_n)) ∧ Fld Z h a "com/example/eschborn/eschborn/engine/BucketWindow" "newestNumber" "J" (.long (own_mvC3_newestNumber u_m)) ∧ Fld Z h a "com/example/eschborn/eschborn/engine/BucketWindow" "newestSlot" "I" (.int (own_mvC3_newestSlot u_s ts)) ∧ Fld Z h a "com/example/eschborn/eschborn/engine/BucketWindow" "load" "J" (.long (own_mvC3_load u_s u_l ts)) ∧ own_LA Z h u_t (own_mvC3_ts u_s ts)
set_option maxRecDepth 65536 in
set_option maxHeartbeats 40000000 in
theorem rm12_C3 (l : Launch) (Z : State) (a0 : Array Value) (hw : ∀ d ∈ tables_1, d.before a0 Z = true) (ws : List Jvm.Cond) (a : Addr) (p1 : Int64) (u_b : Int64) (u_w : Int64) (u_t : Addr) (u_n : Int64) (u_m : Int64) (u_s : Int32) (u_l : Int64) (ts : List Int64) (h0 : Heap) (n0 : Nat) (Z0 : n0 ≤ h0.size) (E_a : Exa Z h0 a "com/example/eschborn/eschborn/engine/BucketWindow") (F_a_bucket : Fld Z h0 a "com/example/eschborn/eschborn/engine/BucketWindow" "bucket" "J" (.long u_b)) (F_a_window : Fld Z h0 a "com/example/eschborn/eschborn/engine/BucketWindow" "window" "J" (.long u_w)) (F_a_totals : Fld Z h0 a "com/example/eschborn/eschborn/engine/BucketWindow" "totals" "[J" (.ref u_t)) (F_a_newest : Fld Z h0 a "com/example/eschborn/eschborn/engine/BucketWindow" "newest" "J" (.long u_n)) (F_a_newestNumber : Fld Z h0 a "com/example/eschborn/eschborn/engine/BucketWindow" "newestNumber" "J" (.long u_m)) (F_a_newestSlot : Fld Z h0 a "com/example/eschborn/eschborn/engine/BucketWindow" "newestSlot" "I" (.int u_s)) (F_a_load : Fld Z h0 a "com/example/eschborn/eschborn/engine/BucketWindow" "load" "J" (.long u_l)) (g_a : n0 ≤ a) (A_u_t : own_LA Z h0 u_t ts) (g_u_t : n0 ≤ u_t) (hnz : u_b ≠ 0) (hl : ¬ u_l = (0 : Int64)) (hk : (own_pas_r p1 u_b u_w u_n ts) = (3 : Int64)) (hn : ¬ (3 : Int64) = (Int32.ofNat ts.length).toInt64) (hs : ¬ u_s < 0 ∧ u_s.toNatClampNeg < ts.length) :
    MetFree l (⟨"com/example/eschborn/eschborn/engine/BucketWindow", "moveOn", "(J)V"⟩ : MethodName) (head1 (Jvm.Cond.code (⟨"com/example/eschborn/eschborn/engine/BucketWindow", "moveOn", "(J)V"⟩ : MethodName) prog_1_method_3_code 7 none :: ws) ({ frames := 3, cells := 0, slots := 0, locals := 48 } : Room)) (fun aa U => aa = #[(.ref a), (.long p1)] ∧ Z.Warmed39 U.vm ∧ U.heap = h0) (fun _ _ _ _ _ => True) (fun _ U o U' => ∃ v L, o = .returned v ∧ Q_rm12_C3 Z a p1 u_b u_w u_t u_n u_m u_s u_l ts h0 n0 v U'.heap L ∧ FrameEnd U o U' L ({ frames := 3, cells := 0, slots := 0, locals := 48 } : Room).cells ({ frames := 3, cells := 0, slots := 0, locals := 48 } : Room).slots) := by
  refine MetFree.of_bodySF (plainFor_of_name own_pn3) hisR ?_
  intro p e s m args below meth c s₁ Bd hml0 hP hK
  obtain ⟨rfl, hZ, hh⟩ := hP
  have hx := Bd.exec
  have hby := Bd.bytes
  have hml : c.maxLocals = 7 := hml0
  have hlk : meth.locks = false := BodyLoose.notSynchronized Bd
  have hown : s.vm.findClass "com/example/eschborn/eschborn/engine/BucketWindow" = some m.cls := findClass_of_methodNamed Bd.named
  have hnm := (name_of_methodNamed Bd.named Bd.method).1
  have X0 : Stand p l e ({ frames := 3, cells := 0, slots := 0, locals := 48 } : Room) s m #[(.ref a), (.long p1)] below meth c s₁ [] 0 0 := Stand.of_body Bd
  have e0 : s₁.heap = h0 := by rw [← hh, Bd.state]; rfl
  have N0 := Fr.nil n0
  show own_Go p e below s (Q_rm12_C3 Z a p1 u_b u_w u_t u_n u_m u_s u_l ts h0 n0) 0 0 (s₁.setTop (entryFrame m #[(.ref a), (.long p1)] 7))
  refine own_go (B := s₁.setTop (mkF m 0 #[.val (.ref a), .val (.long p1), .second, .unset, .unset, .unset, .unset] [])) (fun tgt cont => (XT.entry rfl).trans cont) ?_
  have ne_a_u_t := own_neA E_a (hw _ (List.mem_of_getElem? (i := 3) rfl)) A_u_t.arr
  refine own_go (B := s₁.setTop (mkF m 2 #[.val (.ref a), .val (.long p1), .second, .unset, .unset, .unset, .unset] [(.long p1), (.ref a)])) (fun tgt cont => ?_) ?_
  · refine XS.aloadN X0.here hx rfl (hb hby d12_0) rfl rfl ?_
    refine XS.lloadN X0.here hx rfl (hb hby d12_1) rfl ?_
    exact cont
  -- pc 2: BucketWindow.passed
  obtain ⟨cc1, ca1, cb1⟩ := E_a.cell
  obtain ⟨_, _, ⟨T1, L1, k1, n1⟩, -, X1, ⟨Lc1, hQ1, l1, y1, z1⟩, st1⟩ := X0.privateBack hx (y := (⟨"com/example/eschborn/eschborn/engine/BucketWindow", "passed", "(J)J"⟩ : MethodName)) hown (mvT hZ (hw _ (List.mem_of_getElem? (i := 88) rfl))) (mvT hZ (hw _ (List.mem_of_getElem? (i := 89) rfl))) (own_selP hZ (hw _ (List.mem_of_getElem? (i := 3) rfl)) (hw _ (List.mem_of_getElem? (i := 89) rfl)) (hw _ (List.mem_of_getElem? (i := 90) rfl))) (Cond.privateMethod_at (mvP hZ (hw _ (List.mem_of_getElem? (i := 90) rfl)) (args := #[]))) (mvT hZ (hw _ (List.mem_of_getElem? (i := 91) rfl))) (by decide) (backOf (W := 0) (rm13 l Z a0 hw [] a p1 u_b u_w u_t u_n ts h0 n0 Z0 E_a F_a_bucket F_a_window F_a_totals F_a_newest A_u_t hnz) hZ (hw _ (List.mem_of_getElem? (i := 91) rfl)) (hw _ (List.mem_of_getElem? (i := 4) rfl)) (by decide) (by decide)) (g := (mkF m 2 #[.val (.ref a), .val (.long p1), .second, .unset, .unset, .unset, .unset] [(.long p1), (.ref a)])) rfl (by rw [hml]; rfl) (Steps.refl _) (a := a) (by rw [e0]; exact ca1) cb1 (argsL := [(.long p1)]) (rest := []) (lenOf own_pd6 rfl) rfl (by show 2 * 0 + _ ≤ _; exact Nat.le_of_eq rfl) (hb hby d12_2) (fun _ _ => ⟨rfl, e0, (by decide : 0 + 0 ≤ _), (by decide : 0 + 0 ≤ _)⟩)
  dsimp only [Pt.U, Pt.locs, Pt.cells, Pt.slots] at X1 l1 y1 z1 st1 hQ1
  subst l1 y1 z1
  obtain ⟨rfl, N1q, e1⟩ := hQ1
  have N1 := Fr.app N0 N1q
  refine own_go (fun tgt cont => st1.trans cont) ?_
  show own_Go p e below s (Q_rm12_C3 Z a p1 u_b u_w u_t u_n u_m u_s u_l ts h0 n0) 0 0 (T1.setTop (mkF m 5 #[.val (.ref a), .val (.long p1), .second, .unset, .unset, .unset, .unset] [(.long (own_pas_r p1 u_b u_w u_n ts))]))
  rw [hk]
  refine own_go (B := T1.setTop (mkF m 7 #[.val (.ref a), .val (.long p1), .second, .val (.long (3 : Int64)), .second, .unset, .unset] [(.ref a)])) (fun tgt cont => ?_) ?_
  · refine XS.lstoreN X1.here hx rfl (hb hby d12_5) rfl (l' := #[.val (.ref a), .val (.long p1), .second, .val (.long (3 : Int64)), .second, .unset, .unset]) rfl ?_
    refine XS.aloadN X1.here hx rfl (hb hby d12_6) rfl rfl ?_
    exact cont
  obtain ⟨T2, X2, e2, st2⟩ := getF X1 hx hZ hown (host := "") (Or.inl (hw _ (List.mem_of_getElem? (i := 82) rfl))) Via.refl e1 F_a_load (g := (mkF m 7 #[.val (.ref a), .val (.long p1), .second, .val (.long (3 : Int64)), .second, .unset, .unset] [(.ref a)])) rfl rfl (hb hby d12_7)
  refine own_go (fun tgt cont => st2 tgt cont) ?_
  show own_Go p e below s (Q_rm12_C3 Z a p1 u_b u_w u_t u_n u_m u_s u_l ts h0 n0) 0 0 (T2.setTop (mkF m 10 #[.val (.ref a), .val (.long p1), .second, .val (.long (3 : Int64)), .second, .unset, .unset] [(.long u_l)]))
  refine own_go (B := T2.setTop (mkF m 25 #[.val (.ref a), .val (.long p1), .second, .val (.long (3 : Int64)), .second, .unset, .unset] [(.ref a), (.long (3 : Int64))])) (fun tgt cont => ?_) ?_
  · refine XT.lconstV X2.here hx rfl (0 : Int64) (hb hby d12_10) rfl ?_
    refine XT.lcmp X2.here hx rfl (hb hby d12_11) rfl ?_
    refine XS.ifYes X2.here hx rfl (pc0 := 12) (pc' := 23) rfl (hb hby d12_12) rfl (XT.ll_ne_t hl) (by decide) (by decide) ?_
    refine XS.lloadN X2.here hx rfl (hb hby d12_23) rfl ?_
    refine XS.aloadN X2.here hx rfl (hb hby d12_24) rfl rfl ?_
    exact cont
  obtain ⟨T3, X3, e3, st3⟩ := getF X2 hx hZ hown (host := "") (Or.inl (hw _ (List.mem_of_getElem? (i := 58) rfl))) Via.refl e2 F_a_totals (g := (mkF m 25 #[.val (.ref a), .val (.long p1), .second, .val (.long (3 : Int64)), .second, .unset, .unset] [(.ref a), (.long (3 : Int64))])) rfl rfl (hb hby d12_25)
  refine own_go (fun tgt cont => st3 tgt cont) ?_
  show own_Go p e below s (Q_rm12_C3 Z a p1 u_b u_w u_t u_n u_m u_s u_l ts h0 n0) 0 0 (T3.setTop (mkF m 28 #[.val (.ref a), .val (.long p1), .second, .val (.long (3 : Int64)), .second, .unset, .unset] [(.ref u_t), (.long (3 : Int64))]))
  refine own_go (B := T3.setTop (mkF m 66 #[.val (.ref a), .val (.long p1), .second, .val (.long (3 : Int64)), .second, .val (.long (0 : Int64)), .second] [(.ref a)])) (fun tgt cont => ?_) ?_
  · refine own_lenLA X3 hx hZ e3 A_u_t (g := (mkF m 28 #[.val (.ref a), .val (.long p1), .second, .val (.long (3 : Int64)), .second, .unset, .unset] [(.ref u_t), (.long (3 : Int64))])) rfl rfl (hb hby d12_28) ?_
    refine XS.i2l X3.here hx rfl (hb hby d12_29) rfl ?_
    refine XT.lcmp X3.here hx rfl (hb hby d12_30) rfl ?_
    refine XS.ifYes X3.here hx rfl (pc0 := 31) (pc' := 55) rfl (hb hby d12_31) rfl (XT.ll_ne_t hn) (by decide) (by decide) ?_
    refine XT.lconstV X3.here hx rfl (0 : Int64) (hb hby d12_55) rfl ?_
    refine XS.lstore X3.here hx rfl (hb hby d12_56) rfl (l' := #[.val (.ref a), .val (.long p1), .second, .val (.long (3 : Int64)), .second, .val (.long (0 : Int64)), .second]) rfl ?_
    refine XS.lload X3.here hx rfl (hb hby d12_58) rfl ?_
    refine XS.lloadN X3.here hx rfl (hb hby d12_60) rfl ?_
    refine XT.lcmp X3.here hx rfl (hb hby d12_61) rfl ?_
    refine XS.ifNo X3.here hx rfl (hb hby d12_62) rfl (XT.ll_ge_f (by decide)) ?_
    refine XS.aloadN X3.here hx rfl (hb hby d12_65) rfl rfl ?_
    exact cont
  refine own_go (B := T3.setTop (mkF m 68 #[.val (.ref a), .val (.long p1), .second, .val (.long (3 : Int64)), .second, .val (.long (0 : Int64)), .second] [(.ref a), (.ref a), (.ref a)])) (fun tgt cont => ?_) ?_
  · refine XS.aloadN X3.here hx rfl (hb hby d12_66) rfl rfl ?_
    refine XS.aloadN X3.here hx rfl (hb hby d12_67) rfl rfl ?_
    exact cont
  obtain ⟨T4, X4, e4, st4⟩ := getF X3 hx hZ hown (host := "") (Or.inl (hw _ (List.mem_of_getElem? (i := 80) rfl))) Via.refl e3 F_a_newestSlot (g := (mkF m 68 #[.val (.ref a), .val (.long p1), .second, .val (.long (3 : Int64)), .second, .val (.long (0 : Int64)), .second] [(.ref a), (.ref a), (.ref a)])) rfl rfl (hb hby d12_68)
  refine own_go (fun tgt cont => st4 tgt cont) ?_
  show own_Go p e below s (Q_rm12_C3 Z a p1 u_b u_w u_t u_n u_m u_s u_l ts h0 n0) 0 0 (T4.setTop (mkF m 71 #[.val (.ref a), .val (.long p1), .second, .val (.long (3 : Int64)), .second, .val (.long (0 : Int64)), .second] [(.int u_s), (.ref a), (.ref a)]))
  -- pc 71: BucketWindow.after
  obtain ⟨cc5, ca5, cb5⟩ := E_a.cell
  obtain ⟨_, _, ⟨T5, L5, k5, n5⟩, -, X5, ⟨Lc5, hQ5, l5, y5, z5⟩, st5⟩ := X4.privateBack hx (y := (⟨"com/example/eschborn/eschborn/engine/BucketWindow", "after", "(I)I"⟩ : MethodName)) hown (mvT hZ (hw _ (List.mem_of_getElem? (i := 123) rfl))) (mvT hZ (hw _ (List.mem_of_getElem? (i := 124) rfl))) (own_selP hZ (hw _ (List.mem_of_getElem? (i := 3) rfl)) (hw _ (List.mem_of_getElem? (i := 124) rfl)) (hw _ (List.mem_of_getElem? (i := 125) rfl))) (Cond.privateMethod_at (mvP hZ (hw _ (List.mem_of_getElem? (i := 125) rfl)) (args := #[]))) (mvT hZ (hw _ (List.mem_of_getElem? (i := 126) rfl))) (by decide) (backOf (W := 1) (rm21 l Z a0 hw [] a u_s u_t ts h0 n0 Z0 E_a F_a_totals A_u_t) hZ (hw _ (List.mem_of_getElem? (i := 126) rfl)) (hw _ (List.mem_of_getElem? (i := 4) rfl)) (by decide) (by decide)) (g := (mkF m 71 #[.val (.ref a), .val (.long p1), .second, .val (.long (3 : Int64)), .second, .val (.long (0 : Int64)), .second] [(.int u_s), (.ref a), (.ref a)])) rfl (by rw [hml]; rfl) (Steps.refl _) (a := a) (by rw [e4]; exact ca5) cb5 (argsL := [(.int u_s)]) (rest := [(.ref a)]) (lenOf own_pd9 rfl) rfl (by show 2 * 0 + _ ≤ _; exact Nat.le_of_eq rfl) (hb hby d12_71) (fun _ _ => ⟨rfl, e4, (by decide : 0 + 0 + 0 ≤ _), (by decide : 0 + 0 + 0 ≤ _)⟩)
  dsimp only [Pt.U, Pt.locs, Pt.cells, Pt.slots] at X5 l5 y5 z5 st5 hQ5
  subst l5 y5 z5
  obtain ⟨rfl, N5q, e5⟩ := hQ5
  have N5 := Fr.app N1 N5q
  refine own_go (fun tgt cont => st5.trans cont) ?_
  show own_Go p e below s (Q_rm12_C3 Z a p1 u_b u_w u_t u_n u_m u_s u_l ts h0 n0) 0 0 (T5.setTop (mkF m 74 #[.val (.ref a), .val (.long p1), .second, .val (.long (3 : Int64)), .second, .val (.long (0 : Int64)), .second] [(.int (own_aft_r u_s ts)), (.ref a)]))
  obtain ⟨T6, h6, X6, e6, W6, st6⟩ := putF X5 hx hZ hown (host := "") (Or.inl (hw _ (List.mem_of_getElem? (i := 80) rfl))) Via.refl e5 F_a_newestSlot E_a (Or.inl (hw _ (List.mem_of_getElem? (i := 81) rfl))) (hw _ (List.mem_of_getElem? (i := 3) rfl)) (ty := .int) (by decide) rfl rfl (g := (mkF m 74 #[.val (.ref a), .val (.long p1), .second, .val (.long (3 : Int64)), .second, .val (.long (0 : Int64)), .second] [(.int (own_aft_r u_s ts)), (.ref a)])) rfl rfl (hb hby d12_74)
  have fw6 := F_a_newestSlot.same W6
  have N6 := Fr.snoc X6 N5 g_a
  have kk6 : Keep h0 h6 [a, u_t] := (Keep.refl h0 [a, u_t]).wr W6 (Or.inl (List.mem_of_getElem? (i := 0) rfl))
  have zp6 : n0 ≤ h6.size := Nat.le_trans Z0 kk6.1
  refine own_go (fun tgt cont => st6 tgt cont) ?_
  show own_Go p e below s (Q_rm12_C3 Z a p1 u_b u_w u_t u_n u_m u_s u_l ts h0 n0) 0 0 (T6.setTop (mkF m 77 #[.val (.ref a), .val (.long p1), .second, .val (.long (3 : Int64)), .second, .val (.long (0 : Int64)), .second] []))
  refine own_go (B := T6.setTop (mkF m 79 #[.val (.ref a), .val (.long p1), .second, .val (.long (3 : Int64)), .second, .val (.long (0 : Int64)), .second] [(.ref a), (.ref a)])) (fun tgt cont => ?_) ?_
  · refine XS.aloadN X6.here hx rfl (hb hby d12_77) rfl rfl ?_
    refine XS.dup X6.here hx rfl (hb hby d12_78) rfl rfl ?_
    exact cont
  have f8 := (F_a_load.other W6 (Or.inr (slot_ne (t := .long) (t' := .int) (Or.inl (hw _ (List.mem_of_getElem? (i := 83) rfl))) (Or.inl (hw _ (List.mem_of_getElem? (i := 81) rfl))) (by decide) (by decide) (by decide))))
  obtain ⟨T7, X7, e7, st7⟩ := getF X6 hx hZ hown (host := "") (Or.inl (hw _ (List.mem_of_getElem? (i := 82) rfl))) Via.refl e6 f8 (g := (mkF m 79 #[.val (.ref a), .val (.long p1), .second, .val (.long (3 : Int64)), .second, .val (.long (0 : Int64)), .second] [(.ref a), (.ref a)])) rfl rfl (hb hby d12_79)
  refine own_go (fun tgt cont => st7 tgt cont) ?_
  show own_Go p e below s (Q_rm12_C3 Z a p1 u_b u_w u_t u_n u_m u_s u_l ts h0 n0) 0 0 (T7.setTop (mkF m 82 #[.val (.ref a), .val (.long p1), .second, .val (.long (3 : Int64)), .second, .val (.long (0 : Int64)), .second] [(.long u_l), (.ref a)]))
  refine own_go (B := T7.setTop (mkF m 83 #[.val (.ref a), .val (.long p1), .second, .val (.long (3 : Int64)), .second, .val (.long (0 : Int64)), .second] [(.ref a), (.long u_l), (.ref a)])) (fun tgt cont => ?_) ?_
  · refine XS.aloadN X7.here hx rfl (hb hby d12_82) rfl rfl ?_
    exact cont
  have f10 := (F_a_totals.other W6 (Or.inr (slot_ne (t := (.array .long)) (t' := .int) (Or.inr (hw _ (List.mem_of_getElem? (i := 59) rfl))) (Or.inl (hw _ (List.mem_of_getElem? (i := 81) rfl))) (by decide) (by decide) (by decide))))
  obtain ⟨T9, X9, e9, st9⟩ := getF X7 hx hZ hown (host := "") (Or.inl (hw _ (List.mem_of_getElem? (i := 58) rfl))) Via.refl e7 f10 (g := (mkF m 83 #[.val (.ref a), .val (.long p1), .second, .val (.long (3 : Int64)), .second, .val (.long (0 : Int64)), .second] [(.ref a), (.long u_l), (.ref a)])) rfl rfl (hb hby d12_83)
  refine own_go (fun tgt cont => st9 tgt cont) ?_
  show own_Go p e below s (Q_rm12_C3 Z a p1 u_b u_w u_t u_n u_m u_s u_l ts h0 n0) 0 0 (T9.setTop (mkF m 86 #[.val (.ref a), .val (.long p1), .second, .val (.long (3 : Int64)), .second, .val (.long (0 : Int64)), .second] [(.ref u_t), (.long u_l), (.ref a)]))
  refine own_go (B := T9.setTop (mkF m 87 #[.val (.ref a), .val (.long p1), .second, .val (.long (3 : Int64)), .second, .val (.long (0 : Int64)), .second] [(.ref a), (.ref u_t), (.long u_l), (.ref a)])) (fun tgt cont => ?_) ?_
  · refine XS.aloadN X9.here hx rfl (hb hby d12_86) rfl rfl ?_
    exact cont
  obtain ⟨T11, X11, e11, st11⟩ := getF X9 hx hZ hown (host := "") (Or.inl (hw _ (List.mem_of_getElem? (i := 80) rfl))) Via.refl e9 fw6 (g := (mkF m 87 #[.val (.ref a), .val (.long p1), .second, .val (.long (3 : Int64)), .second, .val (.long (0 : Int64)), .second] [(.ref a), (.ref u_t), (.long u_l), (.ref a)])) rfl rfl (hb hby d12_87)
  refine own_go (fun tgt cont => st11 tgt cont) ?_
  show own_Go p e below s (Q_rm12_C3 Z a p1 u_b u_w u_t u_n u_m u_s u_l ts h0 n0) 0 0 (T11.setTop (mkF m 90 #[.val (.ref a), .val (.long p1), .second, .val (.long (3 : Int64)), .second, .val (.long (0 : Int64)), .second] [(.int (own_aft_r u_s ts)), (.ref u_t), (.long u_l), (.ref a)]))
  have f12 := (A_u_t.other W6 (Ne.symm ne_a_u_t))
  refine own_go (B := T11.setTop (mkF m 92 #[.val (.ref a), .val (.long p1), .second, .val (.long (3 : Int64)), .second, .val (.long (0 : Int64)), .second] [(.long (u_l - (ts.getD (own_aft_r u_s ts).toNatClampNeg 0))), (.ref a)])) (fun tgt cont => ?_) ?_
  · refine own_ldLA X11 hx hZ e11 f12 (j := (own_aft_r u_s ts)) (own_aftB hs A_u_t.small) (g := (mkF m 90 #[.val (.ref a), .val (.long p1), .second, .val (.long (3 : Int64)), .second, .val (.long (0 : Int64)), .second] [(.int (own_aft_r u_s ts)), (.ref u_t), (.long u_l), (.ref a)])) rfl rfl (hb hby d12_90) ?_
    refine XS.lsub X11.here hx rfl (hb hby d12_91) rfl ?_
    exact cont
  have f14 := (E_a.wr W6)
  obtain ⟨T13, h13, X13, e13, W13, st13⟩ := putF X11 hx hZ hown (host := "") (Or.inl (hw _ (List.mem_of_getElem? (i := 82) rfl))) Via.refl e11 f8 f14 (Or.inl (hw _ (List.mem_of_getElem? (i := 83) rfl))) (hw _ (List.mem_of_getElem? (i := 3) rfl)) (ty := .long) (by decide) rfl rfl (g := (mkF m 92 #[.val (.ref a), .val (.long p1), .second, .val (.long (3 : Int64)), .second, .val (.long (0 : Int64)), .second] [(.long (u_l - (ts.getD (own_aft_r u_s ts).toNatClampNeg 0))), (.ref a)])) rfl rfl (hb hby d12_92)
  have fw13 := f8.same W13
  have N13 := Fr.snoc X13 N6 g_a
  have kk13 : Keep h0 h13 [a, u_t] := kk6.wr W13 (Or.inl (List.mem_of_getElem? (i := 0) rfl))
  have zp13 : n0 ≤ h13.size := Nat.le_trans Z0 kk13.1
  refine own_go (fun tgt cont => st13 tgt cont) ?_
  show own_Go p e below s (Q_rm12_C3 Z a p1 u_b u_w u_t u_n u_m u_s u_l ts h0 n0) 0 0 (T13.setTop (mkF m 95 #[.val (.ref a), .val (.long p1), .second, .val (.long (3 : Int64)), .second, .val (.long (0 : Int64)), .second] []))
  refine own_go (B := T13.setTop (mkF m 96 #[.val (.ref a), .val (.long p1), .second, .val (.long (3 : Int64)), .second, .val (.long (0 : Int64)), .second] [(.ref a)])) (fun tgt cont => ?_) ?_
  · refine XS.aloadN X13.here hx rfl (hb hby d12_95) rfl rfl ?_
    exact cont
  have f16 := (f10.other W13 (Or.inr (slot_ne (t := (.array .long)) (t' := .long) (Or.inr (hw _ (List.mem_of_getElem? (i := 59) rfl))) (Or.inl (hw _ (List.mem_of_getElem? (i := 83) rfl))) (by decide) (by decide) (by decide))))
  obtain ⟨T15, X15, e15, st15⟩ := getF X13 hx hZ hown (host := "") (Or.inl (hw _ (List.mem_of_getElem? (i := 58) rfl))) Via.refl e13 f16 (g := (mkF m 96 #[.val (.ref a), .val (.long p1), .second, .val (.long (3 : Int64)), .second, .val (.long (0 : Int64)), .second] [(.ref a)])) rfl rfl (hb hby d12_96)
  refine own_go (fun tgt cont => st15 tgt cont) ?_
  show own_Go p e below s (Q_rm12_C3 Z a p1 u_b u_w u_t u_n u_m u_s u_l ts h0 n0) 0 0 (T15.setTop (mkF m 99 #[.val (.ref a), .val (.long p1), .second, .val (.long (3 : Int64)), .second, .val (.long (0 : Int64)), .second] [(.ref u_t)]))
  refine own_go (B := T15.setTop (mkF m 100 #[.val (.ref a), .val (.long p1), .second, .val (.long (3 : Int64)), .second, .val (.long (0 : Int64)), .second] [(.ref a), (.ref u_t)])) (fun tgt cont => ?_) ?_
  · refine XS.aloadN X15.here hx rfl (hb hby d12_99) rfl rfl ?_
    exact cont
  have f18 := (fw6.other W13 (Or.inr (slot_ne (t := .int) (t' := .long) (Or.inl (hw _ (List.mem_of_getElem? (i := 81) rfl))) (Or.inl (hw _ (List.mem_of_getElem? (i := 83) rfl))) (by decide) (by decide) (by decide))))
  obtain ⟨T17, X17, e17, st17⟩ := getF X15 hx hZ hown (host := "") (Or.inl (hw _ (List.mem_of_getElem? (i := 80) rfl))) Via.refl e15 f18 (g := (mkF m 100 #[.val (.ref a), .val (.long p1), .second, .val (.long (3 : Int64)), .second, .val (.long (0 : Int64)), .second] [(.ref a), (.ref u_t)])) rfl rfl (hb hby d12_100)
  refine own_go (fun tgt cont => st17 tgt cont) ?_
  show own_Go p e below s (Q_rm12_C3 Z a p1 u_b u_w u_t u_n u_m u_s u_l ts h0 n0) 0 0 (T17.setTop (mkF m 103 #[.val (.ref a), .val (.long p1), .second, .val (.long (3 : Int64)), .second, .val (.long (0 : Int64)), .second] [(.int (own_aft_r u_s ts)), (.ref u_t)]))
  refine own_go (B := T17.setTop (mkF m 104 #[.val (.ref a), .val (.long p1), .second, .val (.long (3 : Int64)), .second, .val (.long (0 : Int64)), .second] [(.long (0 : Int64)), (.int (own_aft_r u_s ts)), (.ref u_t)])) (fun tgt cont => ?_) ?_
  · refine XT.lconstV X17.here hx rfl (0 : Int64) (hb hby d12_103) rfl ?_
    exact cont
  have f19 := (f12.other W13 (Ne.symm ne_a_u_t))
  obtain ⟨T20, h20, X20, e20, W20, A20, st20⟩ := own_stLA X17 hx hZ e17 f19 (j := (own_aft_r u_s ts)) (x := (0 : Int64)) (own_aftB hs A_u_t.small) (g := (mkF m 104 #[.val (.ref a), .val (.long p1), .second, .val (.long (3 : Int64)), .second, .val (.long (0 : Int64)), .second] [(.long (0 : Int64)), (.int (own_aft_r u_s ts)), (.ref u_t)])) rfl rfl (hb hby d12_104)
  have N20 := Fr.snoc X20 N13 g_u_t
  have kk20 : Keep h0 h20 [a, u_t] := kk13.wr W20 (Or.inl (List.mem_of_getElem? (i := 1) rfl))
  have zp20 : n0 ≤ h20.size := Nat.le_trans Z0 kk20.1
  refine own_go (fun tgt cont => st20 tgt cont) ?_
  show own_Go p e below s (Q_rm12_C3 Z a p1 u_b u_w u_t u_n u_m u_s u_l ts h0 n0) 0 0 (T20.setTop (mkF m 105 #[.val (.ref a), .val (.long p1), .second, .val (.long (3 : Int64)), .second, .val (.long (0 : Int64)), .second] []))
  refine own_go (B := T20.setTop (mkF m 66 #[.val (.ref a), .val (.long p1), .second, .val (.long (3 : Int64)), .second, .val (.long (1 : Int64)), .second] [(.ref a)])) (fun tgt cont => ?_) ?_
  · refine XS.lload X20.here hx rfl (hb hby d12_105) rfl ?_
    refine XT.lconstV X20.here hx rfl (1 : Int64) (hb hby d12_107) rfl ?_
    refine XS.ladd X20.here hx rfl (hb hby d12_108) rfl ?_
    refine XS.lstore X20.here hx rfl (hb hby d12_109) rfl (l' := #[.val (.ref a), .val (.long p1), .second, .val (.long (3 : Int64)), .second, .val (.long (1 : Int64)), .second]) rfl ?_
    refine XS.goto X20.here hx rfl (pc0 := 111) (pc' := 58) rfl (hb hby d12_111) (by decide) (by decide) ?_
    refine XS.lload X20.here hx rfl (hb hby d12_58) rfl ?_
    refine XS.lloadN X20.here hx rfl (hb hby d12_60) rfl ?_
    refine XT.lcmp X20.here hx rfl (hb hby d12_61) rfl ?_
    refine XS.ifNo X20.here hx rfl (hb hby d12_62) rfl (XT.ll_ge_f (by decide)) ?_
    refine XS.aloadN X20.here hx rfl (hb hby d12_65) rfl rfl ?_
    exact cont
  refine own_go (B := T20.setTop (mkF m 68 #[.val (.ref a), .val (.long p1), .second, .val (.long (3 : Int64)), .second, .val (.long (1 : Int64)), .second] [(.ref a), (.ref a), (.ref a)])) (fun tgt cont => ?_) ?_
  · refine XS.aloadN X20.here hx rfl (hb hby d12_66) rfl rfl ?_
    refine XS.aloadN X20.here hx rfl (hb hby d12_67) rfl rfl ?_
    exact cont
  have f22 := (f18.other W20 (Or.inl ne_a_u_t))
  obtain ⟨T21, X21, e21, st21⟩ := getF X20 hx hZ hown (host := "") (Or.inl (hw _ (List.mem_of_getElem? (i := 80) rfl))) Via.refl e20 f22 (g := (mkF m 68 #[.val (.ref a), .val (.long p1), .second, .val (.long (3 : Int64)), .second, .val (.long (1 : Int64)), .second] [(.ref a), (.ref a), (.ref a)])) rfl rfl (hb hby d12_68)
  refine own_go (fun tgt cont => st21 tgt cont) ?_
  show own_Go p e below s (Q_rm12_C3 Z a p1 u_b u_w u_t u_n u_m u_s u_l ts h0 n0) 0 0 (T21.setTop (mkF m 71 #[.val (.ref a), .val (.long p1), .second, .val (.long (3 : Int64)), .second, .val (.long (1 : Int64)), .second] [(.int (own_aft_r u_s ts)), (.ref a), (.ref a)]))
  -- pc 71: BucketWindow.after
  have f24 := ((f14.wr W13).wr W20)
  have f25 := (f16.other W20 (Or.inl ne_a_u_t))
  obtain ⟨cc23, ca23, cb23⟩ := f24.cell
  obtain ⟨_, _, ⟨T23, L23, k23, n23⟩, -, X23, ⟨Lc23, hQ23, l23, y23, z23⟩, st23⟩ := X21.privateBack hx (y := (⟨"com/example/eschborn/eschborn/engine/BucketWindow", "after", "(I)I"⟩ : MethodName)) hown (mvT hZ (hw _ (List.mem_of_getElem? (i := 123) rfl))) (mvT hZ (hw _ (List.mem_of_getElem? (i := 124) rfl))) (own_selP hZ (hw _ (List.mem_of_getElem? (i := 3) rfl)) (hw _ (List.mem_of_getElem? (i := 124) rfl)) (hw _ (List.mem_of_getElem? (i := 125) rfl))) (Cond.privateMethod_at (mvP hZ (hw _ (List.mem_of_getElem? (i := 125) rfl)) (args := #[]))) (mvT hZ (hw _ (List.mem_of_getElem? (i := 126) rfl))) (by decide) (backOf (W := 1) (rm21 l Z a0 hw [] a (own_aft_r u_s ts) u_t (ts.set (own_aft_r u_s ts).toNatClampNeg (0 : Int64)) h20 n0 zp20 f24 f25 A20) hZ (hw _ (List.mem_of_getElem? (i := 126) rfl)) (hw _ (List.mem_of_getElem? (i := 4) rfl)) (by decide) (by decide)) (g := (mkF m 71 #[.val (.ref a), .val (.long p1), .second, .val (.long (3 : Int64)), .second, .val (.long (1 : Int64)), .second] [(.int (own_aft_r u_s ts)), (.ref a), (.ref a)])) rfl (by rw [hml]; rfl) (Steps.refl _) (a := a) (by rw [e21]; exact ca23) cb23 (argsL := [(.int (own_aft_r u_s ts))]) (rest := [(.ref a)]) (lenOf own_pd9 rfl) rfl (by show 2 * 0 + _ ≤ _; exact Nat.le_of_eq rfl) (hb hby d12_71) (fun _ _ => ⟨rfl, e21, (by decide : 0 + 0 + 0 + 0 ≤ _), (by decide : 0 + 0 + 0 + 0 ≤ _)⟩)
  dsimp only [Pt.U, Pt.locs, Pt.cells, Pt.slots] at X23 l23 y23 z23 st23 hQ23
  subst l23 y23 z23
  obtain ⟨rfl, N23q, e23⟩ := hQ23
  have N23 := Fr.app N20 N23q
  refine own_go (fun tgt cont => st23.trans cont) ?_
  show own_Go p e below s (Q_rm12_C3 Z a p1 u_b u_w u_t u_n u_m u_s u_l ts h0 n0) 0 0 (T23.setTop (mkF m 74 #[.val (.ref a), .val (.long p1), .second, .val (.long (3 : Int64)), .second, .val (.long (1 : Int64)), .second] [(.int (own_aft_r (own_aft_r u_s ts) (ts.set (own_aft_r u_s ts).toNatClampNeg (0 : Int64)))), (.ref a)]))
  obtain ⟨T26, h26, X26, e26, W26, st26⟩ := putF X23 hx hZ hown (host := "") (Or.inl (hw _ (List.mem_of_getElem? (i := 80) rfl))) Via.refl e23 f22 f24 (Or.inl (hw _ (List.mem_of_getElem? (i := 81) rfl))) (hw _ (List.mem_of_getElem? (i := 3) rfl)) (ty := .int) (by decide) rfl rfl (g := (mkF m 74 #[.val (.ref a), .val (.long p1), .second, .val (.long (3 : Int64)), .second, .val (.long (1 : Int64)), .second] [(.int (own_aft_r (own_aft_r u_s ts) (ts.set (own_aft_r u_s ts).toNatClampNeg (0 : Int64)))), (.ref a)])) rfl rfl (hb hby d12_74)
  have fw26 := f22.same W26
  have N26 := Fr.snoc X26 N23 g_a
  have kk26 : Keep h0 h26 [a, u_t] := kk20.wr W26 (Or.inl (List.mem_of_getElem? (i := 0) rfl))
  have zp26 : n0 ≤ h26.size := Nat.le_trans Z0 kk26.1
  refine own_go (fun tgt cont => st26 tgt cont) ?_
  show own_Go p e below s (Q_rm12_C3 Z a p1 u_b u_w u_t u_n u_m u_s u_l ts h0 n0) 0 0 (T26.setTop (mkF m 77 #[.val (.ref a), .val (.long p1), .second, .val (.long (3 : Int64)), .second, .val (.long (1 : Int64)), .second] []))
  refine own_go (B := T26.setTop (mkF m 79 #[.val (.ref a), .val (.long p1), .second, .val (.long (3 : Int64)), .second, .val (.long (1 : Int64)), .second] [(.ref a), (.ref a)])) (fun tgt cont => ?_) ?_
  · refine XS.aloadN X26.here hx rfl (hb hby d12_77) rfl rfl ?_
    refine XS.dup X26.here hx rfl (hb hby d12_78) rfl rfl ?_
    exact cont
  have f28 := ((fw13.other W20 (Or.inl ne_a_u_t)).other W26 (Or.inr (slot_ne (t := .long) (t' := .int) (Or.inl (hw _ (List.mem_of_getElem? (i := 83) rfl))) (Or.inl (hw _ (List.mem_of_getElem? (i := 81) rfl))) (by decide) (by decide) (by decide))))
  obtain ⟨T27, X27, e27, st27⟩ := getF X26 hx hZ hown (host := "") (Or.inl (hw _ (List.mem_of_getElem? (i := 82) rfl))) Via.refl e26 f28 (g := (mkF m 79 #[.val (.ref a), .val (.long p1), .second, .val (.long (3 : Int64)), .second, .val (.long (1 : Int64)), .second] [(.ref a), (.ref a)])) rfl rfl (hb hby d12_79)
  refine own_go (fun tgt cont => st27 tgt cont) ?_
  show own_Go p e below s (Q_rm12_C3 Z a p1 u_b u_w u_t u_n u_m u_s u_l ts h0 n0) 0 0 (T27.setTop (mkF m 82 #[.val (.ref a), .val (.long p1), .second, .val (.long (3 : Int64)), .second, .val (.long (1 : Int64)), .second] [(.long (u_l - (ts.getD (own_aft_r u_s ts).toNatClampNeg 0))), (.ref a)]))
  refine own_go (B := T27.setTop (mkF m 83 #[.val (.ref a), .val (.long p1), .second, .val (.long (3 : Int64)), .second, .val (.long (1 : Int64)), .second] [(.ref a), (.long (u_l - (ts.getD (own_aft_r u_s ts).toNatClampNeg 0))), (.ref a)])) (fun tgt cont => ?_) ?_
  · refine XS.aloadN X27.here hx rfl (hb hby d12_82) rfl rfl ?_
    exact cont
  have f30 := (f25.other W26 (Or.inr (slot_ne (t := (.array .long)) (t' := .int) (Or.inr (hw _ (List.mem_of_getElem? (i := 59) rfl))) (Or.inl (hw _ (List.mem_of_getElem? (i := 81) rfl))) (by decide) (by decide) (by decide))))
  obtain ⟨T29, X29, e29, st29⟩ := getF X27 hx hZ hown (host := "") (Or.inl (hw _ (List.mem_of_getElem? (i := 58) rfl))) Via.refl e27 f30 (g := (mkF m 83 #[.val (.ref a), .val (.long p1), .second, .val (.long (3 : Int64)), .second, .val (.long (1 : Int64)), .second] [(.ref a), (.long (u_l - (ts.getD (own_aft_r u_s ts).toNatClampNeg 0))), (.ref a)])) rfl rfl (hb hby d12_83)
  refine own_go (fun tgt cont => st29 tgt cont) ?_
  show own_Go p e below s (Q_rm12_C3 Z a p1 u_b u_w u_t u_n u_m u_s u_l ts h0 n0) 0 0 (T29.setTop (mkF m 86 #[.val (.ref a), .val (.long p1), .second, .val (.long (3 : Int64)), .second, .val (.long (1 : Int64)), .second] [(.ref u_t), (.long (u_l - (ts.getD (own_aft_r u_s ts).toNatClampNeg 0))), (.ref a)]))
  refine own_go (B := T29.setTop (mkF m 87 #[.val (.ref a), .val (.long p1), .second, .val (.long (3 : Int64)), .second, .val (.long (1 : Int64)), .second] [(.ref a), (.ref u_t), (.long (u_l - (ts.getD (own_aft_r u_s ts).toNatClampNeg 0))), (.ref a)])) (fun tgt cont => ?_) ?_
  · refine XS.aloadN X29.here hx rfl (hb hby d12_86) rfl rfl ?_
    exact cont
  obtain ⟨T31, X31, e31, st31⟩ := getF X29 hx hZ hown (host := "") (Or.inl (hw _ (List.mem_of_getElem? (i := 80) rfl))) Via.refl e29 fw26 (g := (mkF m 87 #[.val (.ref a), .val (.long p1), .second, .val (.long (3 : Int64)), .second, .val (.long (1 : Int64)), .second] [(.ref a), (.ref u_t), (.long (u_l - (ts.getD (own_aft_r u_s ts).toNatClampNeg 0))), (.ref a)])) rfl rfl (hb hby d12_87)
  refine own_go (fun tgt cont => st31 tgt cont) ?_
  show own_Go p e below s (Q_rm12_C3 Z a p1 u_b u_w u_t u_n u_m u_s u_l ts h0 n0) 0 0 (T31.setTop (mkF m 90 #[.val (.ref a), .val (.long p1), .second, .val (.long (3 : Int64)), .second, .val (.long (1 : Int64)), .second] [(.int (own_aft_r (own_aft_r u_s ts) (ts.set (own_aft_r u_s ts).toNatClampNeg (0 : Int64)))), (.ref u_t), (.long (u_l - (ts.getD (own_aft_r u_s ts).toNatClampNeg 0))), (.ref a)]))
  have f32 := (A20.other W26 (Ne.symm ne_a_u_t))
  refine own_go (B := T31.setTop (mkF m 92 #[.val (.ref a), .val (.long p1), .second, .val (.long (3 : Int64)), .second, .val (.long (1 : Int64)), .second] [(.long ((u_l - (ts.getD (own_aft_r u_s ts).toNatClampNeg 0)) - ((ts.set (own_aft_r u_s ts).toNatClampNeg (0 : Int64)).getD (own_aft_r (own_aft_r u_s ts) (ts.set (own_aft_r u_s ts).toNatClampNeg (0 : Int64))).toNatClampNeg 0))), (.ref a)])) (fun tgt cont => ?_) ?_
  · refine own_ldLA X31 hx hZ e31 f32 (j := (own_aft_r (own_aft_r u_s ts) (ts.set (own_aft_r u_s ts).toNatClampNeg (0 : Int64)))) (own_aftB (own_setB (own_aftB hs A_u_t.small)) (own_setS A_u_t.small)) (g := (mkF m 90 #[.val (.ref a), .val (.long p1), .second, .val (.long (3 : Int64)), .second, .val (.long (1 : Int64)), .second] [(.int (own_aft_r (own_aft_r u_s ts) (ts.set (own_aft_r u_s ts).toNatClampNeg (0 : Int64)))), (.ref u_t), (.long (u_l - (ts.getD (own_aft_r u_s ts).toNatClampNeg 0))), (.ref a)])) rfl rfl (hb hby d12_90) ?_
    refine XS.lsub X31.here hx rfl (hb hby d12_91) rfl ?_
    exact cont
  have f34 := (f24.wr W26)
  obtain ⟨T33, h33, X33, e33, W33, st33⟩ := putF X31 hx hZ hown (host := "") (Or.inl (hw _ (List.mem_of_getElem? (i := 82) rfl))) Via.refl e31 f28 f34 (Or.inl (hw _ (List.mem_of_getElem? (i := 83) rfl))) (hw _ (List.mem_of_getElem? (i := 3) rfl)) (ty := .long) (by decide) rfl rfl (g := (mkF m 92 #[.val (.ref a), .val (.long p1), .second, .val (.long (3 : Int64)), .second, .val (.long (1 : Int64)), .second] [(.long ((u_l - (ts.getD (own_aft_r u_s ts).toNatClampNeg 0)) - ((ts.set (own_aft_r u_s ts).toNatClampNeg (0 : Int64)).getD (own_aft_r (own_aft_r u_s ts) (ts.set (own_aft_r u_s ts).toNatClampNeg (0 : Int64))).toNatClampNeg 0))), (.ref a)])) rfl rfl (hb hby d12_92)
  have fw33 := f28.same W33
  have N33 := Fr.snoc X33 N26 g_a
  have kk33 : Keep h0 h33 [a, u_t] := kk26.wr W33 (Or.inl (List.mem_of_getElem? (i := 0) rfl))
  have zp33 : n0 ≤ h33.size := Nat.le_trans Z0 kk33.1
  refine own_go (fun tgt cont => st33 tgt cont) ?_
  show own_Go p e below s (Q_rm12_C3 Z a p1 u_b u_w u_t u_n u_m u_s u_l ts h0 n0) 0 0 (T33.setTop (mkF m 95 #[.val (.ref a), .val (.long p1), .second, .val (.long (3 : Int64)), .second, .val (.long (1 : Int64)), .second] []))
  refine own_go (B := T33.setTop (mkF m 96 #[.val (.ref a), .val (.long p1), .second, .val (.long (3 : Int64)), .second, .val (.long (1 : Int64)), .second] [(.ref a)])) (fun tgt cont => ?_) ?_
  · refine XS.aloadN X33.here hx rfl (hb hby d12_95) rfl rfl ?_
    exact cont
  have f36 := (f30.other W33 (Or.inr (slot_ne (t := (.array .long)) (t' := .long) (Or.inr (hw _ (List.mem_of_getElem? (i := 59) rfl))) (Or.inl (hw _ (List.mem_of_getElem? (i := 83) rfl))) (by decide) (by decide) (by decide))))
  obtain ⟨T35, X35, e35, st35⟩ := getF X33 hx hZ hown (host := "") (Or.inl (hw _ (List.mem_of_getElem? (i := 58) rfl))) Via.refl e33 f36 (g := (mkF m 96 #[.val (.ref a), .val (.long p1), .second, .val (.long (3 : Int64)), .second, .val (.long (1 : Int64)), .second] [(.ref a)])) rfl rfl (hb hby d12_96)
  refine own_go (fun tgt cont => st35 tgt cont) ?_
  show own_Go p e below s (Q_rm12_C3 Z a p1 u_b u_w u_t u_n u_m u_s u_l ts h0 n0) 0 0 (T35.setTop (mkF m 99 #[.val (.ref a), .val (.long p1), .second, .val (.long (3 : Int64)), .second, .val (.long (1 : Int64)), .second] [(.ref u_t)]))
  refine own_go (B := T35.setTop (mkF m 100 #[.val (.ref a), .val (.long p1), .second, .val (.long (3 : Int64)), .second, .val (.long (1 : Int64)), .second] [(.ref a), (.ref u_t)])) (fun tgt cont => ?_) ?_
  · refine XS.aloadN X35.here hx rfl (hb hby d12_99) rfl rfl ?_
    exact cont
  have f38 := (fw26.other W33 (Or.inr (slot_ne (t := .int) (t' := .long) (Or.inl (hw _ (List.mem_of_getElem? (i := 81) rfl))) (Or.inl (hw _ (List.mem_of_getElem? (i := 83) rfl))) (by decide) (by decide) (by decide))))
  obtain ⟨T37, X37, e37, st37⟩ := getF X35 hx hZ hown (host := "") (Or.inl (hw _ (List.mem_of_getElem? (i := 80) rfl))) Via.refl e35 f38 (g := (mkF m 100 #[.val (.ref a), .val (.long p1), .second, .val (.long (3 : Int64)), .second, .val (.long (1 : Int64)), .second] [(.ref a), (.ref u_t)])) rfl rfl (hb hby d12_100)
  refine own_go (fun tgt cont => st37 tgt cont) ?_
  show own_Go p e below s (Q_rm12_C3 Z a p1 u_b u_w u_t u_n u_m u_s u_l ts h0 n0) 0 0 (T37.setTop (mkF m 103 #[.val (.ref a), .val (.long p1), .second, .val (.long (3 : Int64)), .second, .val (.long (1 : Int64)), .second] [(.int (own_aft_r (own_aft_r u_s ts) (ts.set (own_aft_r u_s ts).toNatClampNeg (0 : Int64)))), (.ref u_t)]))
  refine own_go (B := T37.setTop (mkF m 104 #[.val (.ref a), .val (.long p1), .second, .val (.long (3 : Int64)), .second, .val (.long (1 : Int64)), .second] [(.long (0 : Int64)), (.int (own_aft_r (own_aft_r u_s ts) (ts.set (own_aft_r u_s ts).toNatClampNeg (0 : Int64)))), (.ref u_t)])) (fun tgt cont => ?_) ?_
  · refine XT.lconstV X37.here hx rfl (0 : Int64) (hb hby d12_103) rfl ?_
    exact cont
  have f39 := (f32.other W33 (Ne.symm ne_a_u_t))
  obtain ⟨T40, h40, X40, e40, W40, A40, st40⟩ := own_stLA X37 hx hZ e37 f39 (j := (own_aft_r (own_aft_r u_s ts) (ts.set (own_aft_r u_s ts).toNatClampNeg (0 : Int64)))) (x := (0 : Int64)) (own_aftB (own_setB (own_aftB hs A_u_t.small)) (own_setS A_u_t.small)) (g := (mkF m 104 #[.val (.ref a), .val (.long p1), .second, .val (.long (3 : Int64)), .second, .val (.long (1 : Int64)), .second] [(.long (0 : Int64)), (.int (own_aft_r (own_aft_r u_s ts) (ts.set (own_aft_r u_s ts).toNatClampNeg (0 : Int64)))), (.ref u_t)])) rfl rfl (hb hby d12_104)
  have N40 := Fr.snoc X40 N33 g_u_t
  have kk40 : Keep h0 h40 [a, u_t] := kk33.wr W40 (Or.inl (List.mem_of_getElem? (i := 1) rfl))
  have zp40 : n0 ≤ h40.size := Nat.le_trans Z0 kk40.1
  refine own_go (fun tgt cont => st40 tgt cont) ?_
  show own_Go p e below s (Q_rm12_C3 Z a p1 u_b u_w u_t u_n u_m u_s u_l ts h0 n0) 0 0 (T40.setTop (mkF m 105 #[.val (.ref a), .val (.long p1), .second, .val (.long (3 : Int64)), .second, .val (.long (1 : Int64)), .second] []))
  refine own_go (B := T40.setTop (mkF m 66 #[.val (.ref a), .val (.long p1), .second, .val (.long (3 : Int64)), .second, .val (.long (2 : Int64)), .second] [(.ref a)])) (fun tgt cont => ?_) ?_
  · refine XS.lload X40.here hx rfl (hb hby d12_105) rfl ?_
    refine XT.lconstV X40.here hx rfl (1 : Int64) (hb hby d12_107) rfl ?_
    refine XS.ladd X40.here hx rfl (hb hby d12_108) rfl ?_
    refine XS.lstore X40.here hx rfl (hb hby d12_109) rfl (l' := #[.val (.ref a), .val (.long p1), .second, .val (.long (3 : Int64)), .second, .val (.long (2 : Int64)), .second]) rfl ?_
    refine XS.goto X40.here hx rfl (pc0 := 111) (pc' := 58) rfl (hb hby d12_111) (by decide) (by decide) ?_
    refine XS.lload X40.here hx rfl (hb hby d12_58) rfl ?_
    refine XS.lloadN X40.here hx rfl (hb hby d12_60) rfl ?_
    refine XT.lcmp X40.here hx rfl (hb hby d12_61) rfl ?_
    refine XS.ifNo X40.here hx rfl (hb hby d12_62) rfl (XT.ll_ge_f (by decide)) ?_
    refine XS.aloadN X40.here hx rfl (hb hby d12_65) rfl rfl ?_
    exact cont
  refine own_go (B := T40.setTop (mkF m 68 #[.val (.ref a), .val (.long p1), .second, .val (.long (3 : Int64)), .second, .val (.long (2 : Int64)), .second] [(.ref a), (.ref a), (.ref a)])) (fun tgt cont => ?_) ?_
  · refine XS.aloadN X40.here hx rfl (hb hby d12_66) rfl rfl ?_
    refine XS.aloadN X40.here hx rfl (hb hby d12_67) rfl rfl ?_
    exact cont
  have f42 := (f38.other W40 (Or.inl ne_a_u_t))
  obtain ⟨T41, X41, e41, st41⟩ := getF X40 hx hZ hown (host := "") (Or.inl (hw _ (List.mem_of_getElem? (i := 80) rfl))) Via.refl e40 f42 (g := (mkF m 68 #[.val (.ref a), .val (.long p1), .second, .val (.long (3 : Int64)), .second, .val (.long (2 : Int64)), .second] [(.ref a), (.ref a), (.ref a)])) rfl rfl (hb hby d12_68)
  refine own_go (fun tgt cont => st41 tgt cont) ?_
  show own_Go p e below s (Q_rm12_C3 Z a p1 u_b u_w u_t u_n u_m u_s u_l ts h0 n0) 0 0 (T41.setTop (mkF m 71 #[.val (.ref a), .val (.long p1), .second, .val (.long (3 : Int64)), .second, .val (.long (2 : Int64)), .second] [(.int (own_aft_r (own_aft_r u_s ts) (ts.set (own_aft_r u_s ts).toNatClampNeg (0 : Int64)))), (.ref a), (.ref a)]))
  -- pc 71: BucketWindow.after
  have f44 := ((f34.wr W33).wr W40)
  have f45 := (f36.other W40 (Or.inl ne_a_u_t))
  obtain ⟨cc43, ca43, cb43⟩ := f44.cell
  obtain ⟨_, _, ⟨T43, L43, k43, n43⟩, -, X43, ⟨Lc43, hQ43, l43, y43, z43⟩, st43⟩ := X41.privateBack hx (y := (⟨"com/example/eschborn/eschborn/engine/BucketWindow", "after", "(I)I"⟩ : MethodName)) hown (mvT hZ (hw _ (List.mem_of_getElem? (i := 123) rfl))) (mvT hZ (hw _ (List.mem_of_getElem? (i := 124) rfl))) (own_selP hZ (hw _ (List.mem_of_getElem? (i := 3) rfl)) (hw _ (List.mem_of_getElem? (i := 124) rfl)) (hw _ (List.mem_of_getElem? (i := 125) rfl))) (Cond.privateMethod_at (mvP hZ (hw _ (List.mem_of_getElem? (i := 125) rfl)) (args := #[]))) (mvT hZ (hw _ (List.mem_of_getElem? (i := 126) rfl))) (by decide) (backOf (W := 1) (rm21 l Z a0 hw [] a (own_aft_r (own_aft_r u_s ts) (ts.set (own_aft_r u_s ts).toNatClampNeg (0 : Int64))) u_t ((ts.set (own_aft_r u_s ts).toNatClampNeg (0 : Int64)).set (own_aft_r (own_aft_r u_s ts) (ts.set (own_aft_r u_s ts).toNatClampNeg (0 : Int64))).toNatClampNeg (0 : Int64)) h40 n0 zp40 f44 f45 A40) hZ (hw _ (List.mem_of_getElem? (i := 126) rfl)) (hw _ (List.mem_of_getElem? (i := 4) rfl)) (by decide) (by decide)) (g := (mkF m 71 #[.val (.ref a), .val (.long p1), .second, .val (.long (3 : Int64)), .second, .val (.long (2 : Int64)), .second] [(.int (own_aft_r (own_aft_r u_s ts) (ts.set (own_aft_r u_s ts).toNatClampNeg (0 : Int64)))), (.ref a), (.ref a)])) rfl (by rw [hml]; rfl) (Steps.refl _) (a := a) (by rw [e41]; exact ca43) cb43 (argsL := [(.int (own_aft_r (own_aft_r u_s ts) (ts.set (own_aft_r u_s ts).toNatClampNeg (0 : Int64))))]) (rest := [(.ref a)]) (lenOf own_pd9 rfl) rfl (by show 2 * 0 + _ ≤ _; exact Nat.le_of_eq rfl) (hb hby d12_71) (fun _ _ => ⟨rfl, e41, (by decide : 0 + 0 + 0 + 0 + 0 ≤ _), (by decide : 0 + 0 + 0 + 0 + 0 ≤ _)⟩)
  dsimp only [Pt.U, Pt.locs, Pt.cells, Pt.slots] at X43 l43 y43 z43 st43 hQ43
  subst l43 y43 z43
  obtain ⟨rfl, N43q, e43⟩ := hQ43
  have N43 := Fr.app N40 N43q
  refine own_go (fun tgt cont => st43.trans cont) ?_
  show own_Go p e below s (Q_rm12_C3 Z a p1 u_b u_w u_t u_n u_m u_s u_l ts h0 n0) 0 0 (T43.setTop (mkF m 74 #[.val (.ref a), .val (.long p1), .second, .val (.long (3 : Int64)), .second, .val (.long (2 : Int64)), .second] [(.int (own_aft_r (own_aft_r (own_aft_r u_s ts) (ts.set (own_aft_r u_s ts).toNatClampNeg (0 : Int64))) ((ts.set (own_aft_r u_s ts).toNatClampNeg (0 : Int64)).set (own_aft_r (own_aft_r u_s ts) (ts.set (own_aft_r u_s ts).toNatClampNeg (0 : Int64))).toNatClampNeg (0 : Int64)))), (.ref a)]))
  obtain ⟨T46, h46, X46, e46, W46, st46⟩ := putF X43 hx hZ hown (host := "") (Or.inl (hw _ (List.mem_of_getElem? (i := 80) rfl))) Via.refl e43 f42 f44 (Or.inl (hw _ (List.mem_of_getElem? (i := 81) rfl))) (hw _ (List.mem_of_getElem? (i := 3) rfl)) (ty := .int) (by decide) rfl rfl (g := (mkF m 74 #[.val (.ref a), .val (.long p1), .second, .val (.long (3 : Int64)), .second, .val (.long (2 : Int64)), .second] [(.int (own_aft_r (own_aft_r (own_aft_r u_s ts) (ts.set (own_aft_r u_s ts).toNatClampNeg (0 : Int64))) ((ts.set (own_aft_r u_s ts).toNatClampNeg (0 : Int64)).set (own_aft_r (own_aft_r u_s ts) (ts.set (own_aft_r u_s ts).toNatClampNeg (0 : Int64))).toNatClampNeg (0 : Int64)))), (.ref a)])) rfl rfl (hb hby d12_74)
  have fw46 := f42.same W46
  have N46 := Fr.snoc X46 N43 g_a
  have kk46 : Keep h0 h46 [a, u_t] := kk40.wr W46 (Or.inl (List.mem_of_getElem? (i := 0) rfl))
  have zp46 : n0 ≤ h46.size := Nat.le_trans Z0 kk46.1
  refine own_go (fun tgt cont => st46 tgt cont) ?_
  show own_Go p e below s (Q_rm12_C3 Z a p1 u_b u_w u_t u_n u_m u_s u_l ts h0 n0) 0 0 (T46.setTop (mkF m 77 #[.val (.ref a), .val (.long p1), .second, .val (.long (3 : Int64)), .second, .val (.long (2 : Int64)), .second] []))
  refine own_go (B := T46.setTop (mkF m 79 #[.val (.ref a), .val (.long p1), .second, .val (.long (3 : Int64)), .second, .val (.long (2 : Int64)), .second] [(.ref a), (.ref a)])) (fun tgt cont => ?_) ?_
  · refine XS.aloadN X46.here hx rfl (hb hby d12_77) rfl rfl ?_
    refine XS.dup X46.here hx rfl (hb hby d12_78) rfl rfl ?_
    exact cont
  have f48 := ((fw33.other W40 (Or.inl ne_a_u_t)).other W46 (Or.inr (slot_ne (t := .long) (t' := .int) (Or.inl (hw _ (List.mem_of_getElem? (i := 83) rfl))) (Or.inl (hw _ (List.mem_of_getElem? (i := 81) rfl))) (by decide) (by decide) (by decide))))
  obtain ⟨T47, X47, e47, st47⟩ := getF X46 hx hZ hown (host := "") (Or.inl (hw _ (List.mem_of_getElem? (i := 82) rfl))) Via.refl e46 f48 (g := (mkF m 79 #[.val (.ref a), .val (.long p1), .second, .val (.long (3 : Int64)), .second, .val (.long (2 : Int64)), .second] [(.ref a), (.ref a)])) rfl rfl (hb hby d12_79)
  refine own_go (fun tgt cont => st47 tgt cont) ?_
  show own_Go p e below s (Q_rm12_C3 Z a p1 u_b u_w u_t u_n u_m u_s u_l ts h0 n0) 0 0 (T47.setTop (mkF m 82 #[.val (.ref a), .val (.long p1), .second, .val (.long (3 : Int64)), .second, .val (.long (2 : Int64)), .second] [(.long ((u_l - (ts.getD (own_aft_r u_s ts).toNatClampNeg 0)) - ((ts.set (own_aft_r u_s ts).toNatClampNeg (0 : Int64)).getD (own_aft_r (own_aft_r u_s ts) (ts.set (own_aft_r u_s ts).toNatClampNeg (0 : Int64))).toNatClampNeg 0))), (.ref a)]))
  refine own_go (B := T47.setTop (mkF m 83 #[.val (.ref a), .val (.long p1), .second, .val (.long (3 : Int64)), .second, .val (.long (2 : Int64)), .second] [(.ref a), (.long ((u_l - (ts.getD (own_aft_r u_s ts).toNatClampNeg 0)) - ((ts.set (own_aft_r u_s ts).toNatClampNeg (0 : Int64)).getD (own_aft_r (own_aft_r u_s ts) (ts.set (own_aft_r u_s ts).toNatClampNeg (0 : Int64))).toNatClampNeg 0))), (.ref a)])) (fun tgt cont => ?_) ?_
  · refine XS.aloadN X47.here hx rfl (hb hby d12_82) rfl rfl ?_
    exact cont
  have f50 := (f45.other W46 (Or.inr (slot_ne (t := (.array .long)) (t' := .int) (Or.inr (hw _ (List.mem_of_getElem? (i := 59) rfl))) (Or.inl (hw _ (List.mem_of_getElem? (i := 81) rfl))) (by decide) (by decide) (by decide))))
  obtain ⟨T49, X49, e49, st49⟩ := getF X47 hx hZ hown (host := "") (Or.inl (hw _ (List.mem_of_getElem? (i := 58) rfl))) Via.refl e47 f50 (g := (mkF m 83 #[.val (.ref a), .val (.long p1), .second, .val (.long (3 : Int64)), .second, .val (.long (2 : Int64)), .second] [(.ref a), (.long ((u_l - (ts.getD (own_aft_r u_s ts).toNatClampNeg 0)) - ((ts.set (own_aft_r u_s ts).toNatClampNeg (0 : Int64)).getD (own_aft_r (own_aft_r u_s ts) (ts.set (own_aft_r u_s ts).toNatClampNeg (0 : Int64))).toNatClampNeg 0))), (.ref a)])) rfl rfl (hb hby d12_83)
  refine own_go (fun tgt cont => st49 tgt cont) ?_
  show own_Go p e below s (Q_rm12_C3 Z a p1 u_b u_w u_t u_n u_m u_s u_l ts h0 n0) 0 0 (T49.setTop (mkF m 86 #[.val (.ref a), .val (.long p1), .second, .val (.long (3 : Int64)), .second, .val (.long (2 : Int64)), .second] [(.ref u_t), (.long ((u_l - (ts.getD (own_aft_r u_s ts).toNatClampNeg 0)) - ((ts.set (own_aft_r u_s ts).toNatClampNeg (0 : Int64)).getD (own_aft_r (own_aft_r u_s ts) (ts.set (own_aft_r u_s ts).toNatClampNeg (0 : Int64))).toNatClampNeg 0))), (.ref a)]))
  refine own_go (B := T49.setTop (mkF m 87 #[.val (.ref a), .val (.long p1), .second, .val (.long (3 : Int64)), .second, .val (.long (2 : Int64)), .second] [(.ref a), (.ref u_t), (.long ((u_l - (ts.getD (own_aft_r u_s ts).toNatClampNeg 0)) - ((ts.set (own_aft_r u_s ts).toNatClampNeg (0 : Int64)).getD (own_aft_r (own_aft_r u_s ts) (ts.set (own_aft_r u_s ts).toNatClampNeg (0 : Int64))).toNatClampNeg 0))), (.ref a)])) (fun tgt cont => ?_) ?_
  · refine XS.aloadN X49.here hx rfl (hb hby d12_86) rfl rfl ?_
    exact cont
  obtain ⟨T51, X51, e51, st51⟩ := getF X49 hx hZ hown (host := "") (Or.inl (hw _ (List.mem_of_getElem? (i := 80) rfl))) Via.refl e49 fw46 (g := (mkF m 87 #[.val (.ref a), .val (.long p1), .second, .val (.long (3 : Int64)), .second, .val (.long (2 : Int64)), .second] [(.ref a), (.ref u_t), (.long ((u_l - (ts.getD (own_aft_r u_s ts).toNatClampNeg 0)) - ((ts.set (own_aft_r u_s ts).toNatClampNeg (0 : Int64)).getD (own_aft_r (own_aft_r u_s ts) (ts.set (own_aft_r u_s ts).toNatClampNeg (0 : Int64))).toNatClampNeg 0))), (.ref a)])) rfl rfl (hb hby d12_87)
  refine own_go (fun tgt cont => st51 tgt cont) ?_
  show own_Go p e below s (Q_rm12_C3 Z a p1 u_b u_w u_t u_n u_m u_s u_l ts h0 n0) 0 0 (T51.setTop (mkF m 90 #[.val (.ref a), .val (.long p1), .second, .val (.long (3 : Int64)), .second, .val (.long (2 : Int64)), .second] [(.int (own_aft_r (own_aft_r (own_aft_r u_s ts) (ts.set (own_aft_r u_s ts).toNatClampNeg (0 : Int64))) ((ts.set (own_aft_r u_s ts).toNatClampNeg (0 : Int64)).set (own_aft_r (own_aft_r u_s ts) (ts.set (own_aft_r u_s ts).toNatClampNeg (0 : Int64))).toNatClampNeg (0 : Int64)))), (.ref u_t), (.long ((u_l - (ts.getD (own_aft_r u_s ts).toNatClampNeg 0)) - ((ts.set (own_aft_r u_s ts).toNatClampNeg (0 : Int64)).getD (own_aft_r (own_aft_r u_s ts) (ts.set (own_aft_r u_s ts).toNatClampNeg (0 : Int64))).toNatClampNeg 0))), (.ref a)]))
  have f52 := (A40.other W46 (Ne.symm ne_a_u_t))
  refine own_go (B := T51.setTop (mkF m 92 #[.val (.ref a), .val (.long p1), .second, .val (.long (3 : Int64)), .second, .val (.long (2 : Int64)), .second] [(.long (((u_l - (ts.getD (own_aft_r u_s ts).toNatClampNeg 0)) - ((ts.set (own_aft_r u_s ts).toNatClampNeg (0 : Int64)).getD (own_aft_r (own_aft_r u_s ts) (ts.set (own_aft_r u_s ts).toNatClampNeg (0 : Int64))).toNatClampNeg 0)) - (((ts.set (own_aft_r u_s ts).toNatClampNeg (0 : Int64)).set (own_aft_r (own_aft_r u_s ts) (ts.set (own_aft_r u_s ts).toNatClampNeg (0 : Int64))).toNatClampNeg (0 : Int64)).getD (own_aft_r (own_aft_r (own_aft_r u_s ts) (ts.set (own_aft_r u_s ts).toNatClampNeg (0 : Int64))) ((ts.set (own_aft_r u_s ts).toNatClampNeg (0 : Int64)).set (own_aft_r (own_aft_r u_s ts) (ts.set (own_aft_r u_s ts).toNatClampNeg (0 : Int64))).toNatClampNeg (0 : Int64))).toNatClampNeg 0))), (.ref a)])) (fun tgt cont => ?_) ?_
  · refine own_ldLA X51 hx hZ e51 f52 (j := (own_aft_r (own_aft_r (own_aft_r u_s ts) (ts.set (own_aft_r u_s ts).toNatClampNeg (0 : Int64))) ((ts.set (own_aft_r u_s ts).toNatClampNeg (0 : Int64)).set (own_aft_r (own_aft_r u_s ts) (ts.set (own_aft_r u_s ts).toNatClampNeg (0 : Int64))).toNatClampNeg (0 : Int64)))) (own_aftB (own_setB (own_aftB (own_setB (own_aftB hs A_u_t.small)) (own_setS A_u_t.small))) (own_setS (own_setS A_u_t.small))) (g := (mkF m 90 #[.val (.ref a), .val (.long p1), .second, .val (.long (3 : Int64)), .second, .val (.long (2 : Int64)), .second] [(.int (own_aft_r (own_aft_r (own_aft_r u_s ts) (ts.set (own_aft_r u_s ts).toNatClampNeg (0 : Int64))) ((ts.set (own_aft_r u_s ts).toNatClampNeg (0 : Int64)).set (own_aft_r (own_aft_r u_s ts) (ts.set (own_aft_r u_s ts).toNatClampNeg (0 : Int64))).toNatClampNeg (0 : Int64)))), (.ref u_t), (.long ((u_l - (ts.getD (own_aft_r u_s ts).toNatClampNeg 0)) - ((ts.set (own_aft_r u_s ts).toNatClampNeg (0 : Int64)).getD (own_aft_r (own_aft_r u_s ts) (ts.set (own_aft_r u_s ts).toNatClampNeg (0 : Int64))).toNatClampNeg 0))), (.ref a)])) rfl rfl (hb hby d12_90) ?_
    refine XS.lsub X51.here hx rfl (hb hby d12_91) rfl ?_
    exact cont
  have f54 := (f44.wr W46)
  obtain ⟨T53, h53, X53, e53, W53, st53⟩ := putF X51 hx hZ hown (host := "") (Or.inl (hw _ (List.mem_of_getElem? (i := 82) rfl))) Via.refl e51 f48 f54 (Or.inl (hw _ (List.mem_of_getElem? (i := 83) rfl))) (hw _ (List.mem_of_getElem? (i := 3) rfl)) (ty := .long) (by decide) rfl rfl (g := (mkF m 92 #[.val (.ref a), .val (.long p1), .second, .val (.long (3 : Int64)), .second, .val (.long (2 : Int64)), .second] [(.long (((u_l - (ts.getD (own_aft_r u_s ts).toNatClampNeg 0)) - ((ts.set (own_aft_r u_s ts).toNatClampNeg (0 : Int64)).getD (own_aft_r (own_aft_r u_s ts) (ts.set (own_aft_r u_s ts).toNatClampNeg (0 : Int64))).toNatClampNeg 0)) - (((ts.set (own_aft_r u_s ts).toNatClampNeg (0 : Int64)).set (own_aft_r (own_aft_r u_s ts) (ts.set (own_aft_r u_s ts).toNatClampNeg (0 : Int64))).toNatClampNeg (0 : Int64)).getD (own_aft_r (own_aft_r (own_aft_r u_s ts) (ts.set (own_aft_r u_s ts).toNatClampNeg (0 : Int64))) ((ts.set (own_aft_r u_s ts).toNatClampNeg (0 : Int64)).set (own_aft_r (own_aft_r u_s ts) (ts.set (own_aft_r u_s ts).toNatClampNeg (0 : Int64))).toNatClampNeg (0 : Int64))).toNatClampNeg 0))), (.ref a)])) rfl rfl (hb hby d12_92)
  have fw53 := f48.same W53
  have N53 := Fr.snoc X53 N46 g_a
  have kk53 : Keep h0 h53 [a, u_t] := kk46.wr W53 (Or.inl (List.mem_of_getElem? (i := 0) rfl))
  have zp53 : n0 ≤ h53.size := Nat.le_trans Z0 kk53.1
  refine own_go (fun tgt cont => st53 tgt cont) ?_
  show own_Go p e below s (Q_rm12_C3 Z a p1 u_b u_w u_t u_n u_m u_s u_l ts h0 n0) 0 0 (T53.setTop (mkF m 95 #[.val (.ref a), .val (.long p1), .second, .val (.long (3 : Int64)), .second, .val (.long (2 : Int64)), .second] []))
  refine own_go (B := T53.setTop (mkF m 96 #[.val (.ref a), .val (.long p1), .second, .val (.long (3 : Int64)), .second, .val (.long (2 : Int64)), .second] [(.ref a)])) (fun tgt cont => ?_) ?_
  · refine XS.aloadN X53.here hx rfl (hb hby d12_95) rfl rfl ?_
    exact cont
  have f56 := (f50.other W53 (Or.inr (slot_ne (t := (.array .long)) (t' := .long) (Or.inr (hw _ (List.mem_of_getElem? (i := 59) rfl))) (Or.inl (hw _ (List.mem_of_getElem? (i := 83) rfl))) (by decide) (by decide) (by decide))))
  obtain ⟨T55, X55, e55, st55⟩ := getF X53 hx hZ hown (host := "") (Or.inl (hw _ (List.mem_of_getElem? (i := 58) rfl))) Via.refl e53 f56 (g := (mkF m 96 #[.val (.ref a), .val (.long p1), .second, .val (.long (3 : Int64)), .second, .val (.long (2 : Int64)), .second] [(.ref a)])) rfl rfl (hb hby d12_96)
  refine own_go (fun tgt cont => st55 tgt cont) ?_
  show own_Go p e below s (Q_rm12_C3 Z a p1 u_b u_w u_t u_n u_m u_s u_l ts h0 n0) 0 0 (T55.setTop (mkF m 99 #[.val (.ref a), .val (.long p1), .second, .val (.long (3 : Int64)), .second, .val (.long (2 : Int64)), .second] [(.ref u_t)]))
  refine own_go (B := T55.setTop (mkF m 100 #[.val (.ref a), .val (.long p1), .second, .val (.long (3 : Int64)), .second, .val (.long (2 : Int64)), .second] [(.ref a), (.ref u_t)])) (fun tgt cont => ?_) ?_
  · refine XS.aloadN X55.here hx rfl (hb hby d12_99) rfl rfl ?_
    exact cont
  have f58 := (fw46.other W53 (Or.inr (slot_ne (t := .int) (t' := .long) (Or.inl (hw _ (List.mem_of_getElem? (i := 81) rfl))) (Or.inl (hw _ (List.mem_of_getElem? (i := 83) rfl))) (by decide) (by decide) (by decide))))
  obtain ⟨T57, X57, e57, st57⟩ := getF X55 hx hZ hown (host := "") (Or.inl (hw _ (List.mem_of_getElem? (i := 80) rfl))) Via.refl e55 f58 (g := (mkF m 100 #[.val (.ref a), .val (.long p1), .second, .val (.long (3 : Int64)), .second, .val (.long (2 : Int64)), .second] [(.ref a), (.ref u_t)])) rfl rfl (hb hby d12_100)
  refine own_go (fun tgt cont => st57 tgt cont) ?_
  show own_Go p e below s (Q_rm12_C3 Z a p1 u_b u_w u_t u_n u_m u_s u_l ts h0 n0) 0 0 (T57.setTop (mkF m 103 #[.val (.ref a), .val (.long p1), .second, .val (.long (3 : Int64)), .second, .val (.long (2 : Int64)), .second] [(.int (own_aft_r (own_aft_r (own_aft_r u_s ts) (ts.set (own_aft_r u_s ts).toNatClampNeg (0 : Int64))) ((ts.set (own_aft_r u_s ts).toNatClampNeg (0 : Int64)).set (own_aft_r (own_aft_r u_s ts) (ts.set (own_aft_r u_s ts).toNatClampNeg (0 : Int64))).toNatClampNeg (0 : Int64)))), (.ref u_t)]))
  refine own_go (B := T57.setTop (mkF m 104 #[.val (.ref a), .val (.long p1), .second, .val (.long (3 : Int64)), .second, .val (.long (2 : Int64)), .second] [(.long (0 : Int64)), (.int (own_aft_r (own_aft_r (own_aft_r u_s ts) (ts.set (own_aft_r u_s ts).toNatClampNeg (0 : Int64))) ((ts.set (own_aft_r u_s ts).toNatClampNeg (0 : Int64)).set (own_aft_r (own_aft_r u_s ts) (ts.set (own_aft_r u_s ts).toNatClampNeg (0 : Int64))).toNatClampNeg (0 : Int64)))), (.ref u_t)])) (fun tgt cont => ?_) ?_
  · refine XT.lconstV X57.here hx rfl (0 : Int64) (hb hby d12_103) rfl ?_
    exact cont
  have f59 := (f52.other W53 (Ne.symm ne_a_u_t))
  obtain ⟨T60, h60, X60, e60, W60, A60, st60⟩ := own_stLA X57 hx hZ e57 f59 (j := (own_aft_r (own_aft_r (own_aft_r u_s ts) (ts.set (own_aft_r u_s ts).toNatClampNeg (0 : Int64))) ((ts.set (own_aft_r u_s ts).toNatClampNeg (0 : Int64)).set (own_aft_r (own_aft_r u_s ts) (ts.set (own_aft_r u_s ts).toNatClampNeg (0 : Int64))).toNatClampNeg (0 : Int64)))) (x := (0 : Int64)) (own_aftB (own_setB (own_aftB (own_setB (own_aftB hs A_u_t.small)) (own_setS A_u_t.small))) (own_setS (own_setS A_u_t.small))) (g := (mkF m 104 #[.val (.ref a), .val (.long p1), .second, .val (.long (3 : Int64)), .second, .val (.long (2 : Int64)), .second] [(.long (0 : Int64)), (.int (own_aft_r (own_aft_r (own_aft_r u_s ts) (ts.set (own_aft_r u_s ts).toNatClampNeg (0 : Int64))) ((ts.set (own_aft_r u_s ts).toNatClampNeg (0 : Int64)).set (own_aft_r (own_aft_r u_s ts) (ts.set (own_aft_r u_s ts).toNatClampNeg (0 : Int64))).toNatClampNeg (0 : Int64)))), (.ref u_t)])) rfl rfl (hb hby d12_104)
  have N60 := Fr.snoc X60 N53 g_u_t
  have kk60 : Keep h0 h60 [a, u_t] := kk53.wr W60 (Or.inl (List.mem_of_getElem? (i := 1) rfl))
  have zp60 : n0 ≤ h60.size := Nat.le_trans Z0 kk60.1
  refine own_go (fun tgt cont => st60 tgt cont) ?_
  show own_Go p e below s (Q_rm12_C3 Z a p1 u_b u_w u_t u_n u_m u_s u_l ts h0 n0) 0 0 (T60.setTop (mkF m 105 #[.val (.ref a), .val (.long p1), .second, .val (.long (3 : Int64)), .second, .val (.long (2 : Int64)), .second] []))
  refine own_go (B := T60.setTop (mkF m 115 #[.val (.ref a), .val (.long p1), .second, .val (.long (3 : Int64)), .second, .val (.long (3 : Int64)), .second] [(.ref a)])) (fun tgt cont => ?_) ?_
  · refine XS.lload X60.here hx rfl (hb hby d12_105) rfl ?_
    refine XT.lconstV X60.here hx rfl (1 : Int64) (hb hby d12_107) rfl ?_
    refine XS.ladd X60.here hx rfl (hb hby d12_108) rfl ?_
    refine XS.lstore X60.here hx rfl (hb hby d12_109) rfl (l' := #[.val (.ref a), .val (.long p1), .second, .val (.long (3 : Int64)), .second, .val (.long (3 : Int64)), .second]) rfl ?_
    refine XS.goto X60.here hx rfl (pc0 := 111) (pc' := 58) rfl (hb hby d12_111) (by decide) (by decide) ?_
    refine XS.lload X60.here hx rfl (hb hby d12_58) rfl ?_
    refine XS.lloadN X60.here hx rfl (hb hby d12_60) rfl ?_
    refine XT.lcmp X60.here hx rfl (hb hby d12_61) rfl ?_
    refine XS.ifYes X60.here hx rfl (pc0 := 62) (pc' := 114) rfl (hb hby d12_62) rfl (XT.ll_ge_t (by decide)) (by decide) (by decide) ?_
    refine XS.aloadN X60.here hx rfl (hb hby d12_114) rfl rfl ?_
    exact cont
  refine own_go (B := T60.setTop (mkF m 116 #[.val (.ref a), .val (.long p1), .second, .val (.long (3 : Int64)), .second, .val (.long (3 : Int64)), .second] [(.ref a), (.ref a)])) (fun tgt cont => ?_) ?_
  · refine XS.dup X60.here hx rfl (hb hby d12_115) rfl rfl ?_
    exact cont
  have f62 := (((((((((F_a_newest.other W6 (Or.inr (slot_ne (t := .long) (t' := .int) (Or.inl (hw _ (List.mem_of_getElem? (i := 66) rfl))) (Or.inl (hw _ (List.mem_of_getElem? (i := 81) rfl))) (by decide) (by decide) (by decide)))).other W13 (Or.inr (slot_ne (t := .long) (t' := .long) (Or.inl (hw _ (List.mem_of_getElem? (i := 66) rfl))) (Or.inl (hw _ (List.mem_of_getElem? (i := 83) rfl))) (by decide) (by decide) (by decide)))).other W20 (Or.inl ne_a_u_t)).other W26 (Or.inr (slot_ne (t := .long) (t' := .int) (Or.inl (hw _ (List.mem_of_getElem? (i := 66) rfl))) (Or.inl (hw _ (List.mem_of_getElem? (i := 81) rfl))) (by decide) (by decide) (by decide)))).other W33 (Or.inr (slot_ne (t := .long) (t' := .long) (Or.inl (hw _ (List.mem_of_getElem? (i := 66) rfl))) (Or.inl (hw _ (List.mem_of_getElem? (i := 83) rfl))) (by decide) (by decide) (by decide)))).other W40 (Or.inl ne_a_u_t)).other W46 (Or.inr (slot_ne (t := .long) (t' := .int) (Or.inl (hw _ (List.mem_of_getElem? (i := 66) rfl))) (Or.inl (hw _ (List.mem_of_getElem? (i := 81) rfl))) (by decide) (by decide) (by decide)))).other W53 (Or.inr (slot_ne (t := .long) (t' := .long) (Or.inl (hw _ (List.mem_of_getElem? (i := 66) rfl))) (Or.inl (hw _ (List.mem_of_getElem? (i := 83) rfl))) (by decide) (by decide) (by decide)))).other W60 (Or.inl ne_a_u_t))
  obtain ⟨T61, X61, e61, st61⟩ := getF X60 hx hZ hown (host := "") (Or.inl (hw _ (List.mem_of_getElem? (i := 65) rfl))) Via.refl e60 f62 (g := (mkF m 116 #[.val (.ref a), .val (.long p1), .second, .val (.long (3 : Int64)), .second, .val (.long (3 : Int64)), .second] [(.ref a), (.ref a)])) rfl rfl (hb hby d12_116)
  refine own_go (fun tgt cont => st61 tgt cont) ?_
  show own_Go p e below s (Q_rm12_C3 Z a p1 u_b u_w u_t u_n u_m u_s u_l ts h0 n0) 0 0 (T61.setTop (mkF m 119 #[.val (.ref a), .val (.long p1), .second, .val (.long (3 : Int64)), .second, .val (.long (3 : Int64)), .second] [(.long u_n), (.ref a)]))
  refine own_go (B := T61.setTop (mkF m 121 #[.val (.ref a), .val (.long p1), .second, .val (.long (3 : Int64)), .second, .val (.long (3 : Int64)), .second] [(.ref a), (.long (3 : Int64)), (.long u_n), (.ref a)])) (fun tgt cont => ?_) ?_
  · refine XS.lloadN X61.here hx rfl (hb hby d12_119) rfl ?_
    refine XS.aloadN X61.here hx rfl (hb hby d12_120) rfl rfl ?_
    exact cont
  have f64 := (((((((((F_a_bucket.other W6 (Or.inr (slot_ne (t := .long) (t' := .int) (Or.inr (hw _ (List.mem_of_getElem? (i := 44) rfl))) (Or.inl (hw _ (List.mem_of_getElem? (i := 81) rfl))) (by decide) (by decide) (by decide)))).other W13 (Or.inr (slot_ne (t := .long) (t' := .long) (Or.inr (hw _ (List.mem_of_getElem? (i := 44) rfl))) (Or.inl (hw _ (List.mem_of_getElem? (i := 83) rfl))) (by decide) (by decide) (by decide)))).other W20 (Or.inl ne_a_u_t)).other W26 (Or.inr (slot_ne (t := .long) (t' := .int) (Or.inr (hw _ (List.mem_of_getElem? (i := 44) rfl))) (Or.inl (hw _ (List.mem_of_getElem? (i := 81) rfl))) (by decide) (by decide) (by decide)))).other W33 (Or.inr (slot_ne (t := .long) (t' := .long) (Or.inr (hw _ (List.mem_of_getElem? (i := 44) rfl))) (Or.inl (hw _ (List.mem_of_getElem? (i := 83) rfl))) (by decide) (by decide) (by decide)))).other W40 (Or.inl ne_a_u_t)).other W46 (Or.inr (slot_ne (t := .long) (t' := .int) (Or.inr (hw _ (List.mem_of_getElem? (i := 44) rfl))) (Or.inl (hw _ (List.mem_of_getElem? (i := 81) rfl))) (by decide) (by decide) (by decide)))).other W53 (Or.inr (slot_ne (t := .long) (t' := .long) (Or.inr (hw _ (List.mem_of_getElem? (i := 44) rfl))) (Or.inl (hw _ (List.mem_of_getElem? (i := 83) rfl))) (by decide) (by decide) (by decide)))).other W60 (Or.inl ne_a_u_t))
  obtain ⟨T63, X63, e63, st63⟩ := getF X61 hx hZ hown (host := "") (Or.inl (hw _ (List.mem_of_getElem? (i := 43) rfl))) Via.refl e61 f64 (g := (mkF m 121 #[.val (.ref a), .val (.long p1), .second, .val (.long (3 : Int64)), .second, .val (.long (3 : Int64)), .second] [(.ref a), (.long (3 : Int64)), (.long u_n), (.ref a)])) rfl rfl (hb hby d12_121)
  refine own_go (fun tgt cont => st63 tgt cont) ?_
  show own_Go p e below s (Q_rm12_C3 Z a p1 u_b u_w u_t u_n u_m u_s u_l ts h0 n0) 0 0 (T63.setTop (mkF m 124 #[.val (.ref a), .val (.long p1), .second, .val (.long (3 : Int64)), .second, .val (.long (3 : Int64)), .second] [(.long u_b), (.long (3 : Int64)), (.long u_n), (.ref a)]))
  refine own_go (B := T63.setTop (mkF m 126 #[.val (.ref a), .val (.long p1), .second, .val (.long (3 : Int64)), .second, .val (.long (3 : Int64)), .second] [(.long (u_n + ((3 : Int64) * u_b))), (.ref a)])) (fun tgt cont => ?_) ?_
  · refine XS.lmul X63.here hx rfl (hb hby d12_124) rfl ?_
    refine XS.ladd X63.here hx rfl (hb hby d12_125) rfl ?_
    exact cont
  have f66 := ((f54.wr W53).wr W60)
  obtain ⟨T65, h65, X65, e65, W65, st65⟩ := putF X63 hx hZ hown (host := "") (Or.inl (hw _ (List.mem_of_getElem? (i := 65) rfl))) Via.refl e63 f62 f66 (Or.inl (hw _ (List.mem_of_getElem? (i := 66) rfl))) (hw _ (List.mem_of_getElem? (i := 3) rfl)) (ty := .long) (by decide) rfl rfl (g := (mkF m 126 #[.val (.ref a), .val (.long p1), .second, .val (.long (3 : Int64)), .second, .val (.long (3 : Int64)), .second] [(.long (u_n + ((3 : Int64) * u_b))), (.ref a)])) rfl rfl (hb hby d12_126)
  have fw65 := f62.same W65
  have N65 := Fr.snoc X65 N60 g_a
  have kk65 : Keep h0 h65 [a, u_t] := kk60.wr W65 (Or.inl (List.mem_of_getElem? (i := 0) rfl))
  have zp65 : n0 ≤ h65.size := Nat.le_trans Z0 kk65.1
  refine own_go (fun tgt cont => st65 tgt cont) ?_
  show own_Go p e below s (Q_rm12_C3 Z a p1 u_b u_w u_t u_n u_m u_s u_l ts h0 n0) 0 0 (T65.setTop (mkF m 129 #[.val (.ref a), .val (.long p1), .second, .val (.long (3 : Int64)), .second, .val (.long (3 : Int64)), .second] []))
  refine own_go (B := T65.setTop (mkF m 131 #[.val (.ref a), .val (.long p1), .second, .val (.long (3 : Int64)), .second, .val (.long (3 : Int64)), .second] [(.ref a), (.ref a)])) (fun tgt cont => ?_) ?_
  · refine XS.aloadN X65.here hx rfl (hb hby d12_129) rfl rfl ?_
    refine XS.dup X65.here hx rfl (hb hby d12_130) rfl rfl ?_
    exact cont
  have f68 := ((((((((((F_a_newestNumber.other W6 (Or.inr (slot_ne (t := .long) (t' := .int) (Or.inl (hw _ (List.mem_of_getElem? (i := 113) rfl))) (Or.inl (hw _ (List.mem_of_getElem? (i := 81) rfl))) (by decide) (by decide) (by decide)))).other W13 (Or.inr (slot_ne (t := .long) (t' := .long) (Or.inl (hw _ (List.mem_of_getElem? (i := 113) rfl))) (Or.inl (hw _ (List.mem_of_getElem? (i := 83) rfl))) (by decide) (by decide) (by decide)))).other W20 (Or.inl ne_a_u_t)).other W26 (Or.inr (slot_ne (t := .long) (t' := .int) (Or.inl (hw _ (List.mem_of_getElem? (i := 113) rfl))) (Or.inl (hw _ (List.mem_of_getElem? (i := 81) rfl))) (by decide) (by decide) (by decide)))).other W33 (Or.inr (slot_ne (t := .long) (t' := .long) (Or.inl (hw _ (List.mem_of_getElem? (i := 113) rfl))) (Or.inl (hw _ (List.mem_of_getElem? (i := 83) rfl))) (by decide) (by decide) (by decide)))).other W40 (Or.inl ne_a_u_t)).other W46 (Or.inr (slot_ne (t := .long) (t' := .int) (Or.inl (hw _ (List.mem_of_getElem? (i := 113) rfl))) (Or.inl (hw _ (List.mem_of_getElem? (i := 81) rfl))) (by decide) (by decide) (by decide)))).other W53 (Or.inr (slot_ne (t := .long) (t' := .long) (Or.inl (hw _ (List.mem_of_getElem? (i := 113) rfl))) (Or.inl (hw _ (List.mem_of_getElem? (i := 83) rfl))) (by decide) (by decide) (by decide)))).other W60 (Or.inl ne_a_u_t)).other W65 (Or.inr (slot_ne (t := .long) (t' := .long) (Or.inl (hw _ (List.mem_of_getElem? (i := 113) rfl))) (Or.inl (hw _ (List.mem_of_getElem? (i := 66) rfl))) (by decide) (by decide) (by decide))))
  obtain ⟨T67, X67, e67, st67⟩ := getF X65 hx hZ hown (host := "") (Or.inl (hw _ (List.mem_of_getElem? (i := 112) rfl))) Via.refl e65 f68 (g := (mkF m 131 #[.val (.ref a), .val (.long p1), .second, .val (.long (3 : Int64)), .second, .val (.long (3 : Int64)), .second] [(.ref a), (.ref a)])) rfl rfl (hb hby d12_131)
  refine own_go (fun tgt cont => st67 tgt cont) ?_
  show own_Go p e below s (Q_rm12_C3 Z a p1 u_b u_w u_t u_n u_m u_s u_l ts h0 n0) 0 0 (T67.setTop (mkF m 134 #[.val (.ref a), .val (.long p1), .second, .val (.long (3 : Int64)), .second, .val (.long (3 : Int64)), .second] [(.long u_m), (.ref a)]))
  refine own_go (B := T67.setTop (mkF m 136 #[.val (.ref a), .val (.long p1), .second, .val (.long (3 : Int64)), .second, .val (.long (3 : Int64)), .second] [(.long (u_m + (3 : Int64))), (.ref a)])) (fun tgt cont => ?_) ?_
  · refine XS.lloadN X67.here hx rfl (hb hby d12_134) rfl ?_
    refine XS.ladd X67.here hx rfl (hb hby d12_135) rfl ?_
    exact cont
  have f70 := (f66.wr W65)
  obtain ⟨T69, h69, X69, e69, W69, st69⟩ := putF X67 hx hZ hown (host := "") (Or.inl (hw _ (List.mem_of_getElem? (i := 112) rfl))) Via.refl e67 f68 f70 (Or.inl (hw _ (List.mem_of_getElem? (i := 113) rfl))) (hw _ (List.mem_of_getElem? (i := 3) rfl)) (ty := .long) (by decide) rfl rfl (g := (mkF m 136 #[.val (.ref a), .val (.long p1), .second, .val (.long (3 : Int64)), .second, .val (.long (3 : Int64)), .second] [(.long (u_m + (3 : Int64))), (.ref a)])) rfl rfl (hb hby d12_136)
  have fw69 := f68.same W69
  have N69 := Fr.snoc X69 N65 g_a
  have kk69 : Keep h0 h69 [a, u_t] := kk65.wr W69 (Or.inl (List.mem_of_getElem? (i := 0) rfl))
  have zp69 : n0 ≤ h69.size := Nat.le_trans Z0 kk69.1
  refine own_go (fun tgt cont => st69 tgt cont) ?_
  show own_Go p e below s (Q_rm12_C3 Z a p1 u_b u_w u_t u_n u_m u_s u_l ts h0 n0) 0 0 (T69.setTop (mkF m 139 #[.val (.ref a), .val (.long p1), .second, .val (.long (3 : Int64)), .second, .val (.long (3 : Int64)), .second] []))
  refine own_end X69 (v := none) (fun _ => rfl) hlk ?_ (by decide) (by decide) (fun fs hl => X69.returnOut hx Bd.returns (hb hby d12_139) hl)
  have f71 := (f70.wr W69)
  have f72 := ((f64.other W65 (Or.inr (slot_ne (t := .long) (t' := .long) (Or.inr (hw _ (List.mem_of_getElem? (i := 44) rfl))) (Or.inl (hw _ (List.mem_of_getElem? (i := 66) rfl))) (by decide) (by decide) (by decide)))).other W69 (Or.inr (slot_ne (t := .long) (t' := .long) (Or.inr (hw _ (List.mem_of_getElem? (i := 44) rfl))) (Or.inl (hw _ (List.mem_of_getElem? (i := 113) rfl))) (by decide) (by decide) (by decide))))
  have f73 := (((((((((((F_a_window.other W6 (Or.inr (slot_ne (t := .long) (t' := .int) (Or.inr (hw _ (List.mem_of_getElem? (i := 51) rfl))) (Or.inl (hw _ (List.mem_of_getElem? (i := 81) rfl))) (by decide) (by decide) (by decide)))).other W13 (Or.inr (slot_ne (t := .long) (t' := .long) (Or.inr (hw _ (List.mem_of_getElem? (i := 51) rfl))) (Or.inl (hw _ (List.mem_of_getElem? (i := 83) rfl))) (by decide) (by decide) (by decide)))).other W20 (Or.inl ne_a_u_t)).other W26 (Or.inr (slot_ne (t := .long) (t' := .int) (Or.inr (hw _ (List.mem_of_getElem? (i := 51) rfl))) (Or.inl (hw _ (List.mem_of_getElem? (i := 81) rfl))) (by decide) (by decide) (by decide)))).other W33 (Or.inr (slot_ne (t := .long) (t' := .long) (Or.inr (hw _ (List.mem_of_getElem? (i := 51) rfl))) (Or.inl (hw _ (List.mem_of_getElem? (i := 83) rfl))) (by decide) (by decide) (by decide)))).other W40 (Or.inl ne_a_u_t)).other W46 (Or.inr (slot_ne (t := .long) (t' := .int) (Or.inr (hw _ (List.mem_of_getElem? (i := 51) rfl))) (Or.inl (hw _ (List.mem_of_getElem? (i := 81) rfl))) (by decide) (by decide) (by decide)))).other W53 (Or.inr (slot_ne (t := .long) (t' := .long) (Or.inr (hw _ (List.mem_of_getElem? (i := 51) rfl))) (Or.inl (hw _ (List.mem_of_getElem? (i := 83) rfl))) (by decide) (by decide) (by decide)))).other W60 (Or.inl ne_a_u_t)).other W65 (Or.inr (slot_ne (t := .long) (t' := .long) (Or.inr (hw _ (List.mem_of_getElem? (i := 51) rfl))) (Or.inl (hw _ (List.mem_of_getElem? (i := 66) rfl))) (by decide) (by decide) (by decide)))).other W69 (Or.inr (slot_ne (t := .long) (t' := .long) (Or.inr (hw _ (List.mem_of_getElem? (i := 51) rfl))) (Or.inl (hw _ (List.mem_of_getElem? (i := 113) rfl))) (by decide) (by decide) (by decide))))
  have f74 := (((f56.other W60 (Or.inl ne_a_u_t)).other W65 (Or.inr (slot_ne (t := (.array .long)) (t' := .long) (Or.inr (hw _ (List.mem_of_getElem? (i := 59) rfl))) (Or.inl (hw _ (List.mem_of_getElem? (i := 66) rfl))) (by decide) (by decide) (by decide)))).other W69 (Or.inr (slot_ne (t := (.array .long)) (t' := .long) (Or.inr (hw _ (List.mem_of_getElem? (i := 59) rfl))) (Or.inl (hw _ (List.mem_of_getElem? (i := 113) rfl))) (by decide) (by decide) (by decide))))
  have f75 := (fw65.other W69 (Or.inr (slot_ne (t := .long) (t' := .long) (Or.inl (hw _ (List.mem_of_getElem? (i := 66) rfl))) (Or.inl (hw _ (List.mem_of_getElem? (i := 113) rfl))) (by decide) (by decide) (by decide))))
  have f76 := (((f58.other W60 (Or.inl ne_a_u_t)).other W65 (Or.inr (slot_ne (t := .int) (t' := .long) (Or.inl (hw _ (List.mem_of_getElem? (i := 81) rfl))) (Or.inl (hw _ (List.mem_of_getElem? (i := 66) rfl))) (by decide) (by decide) (by decide)))).other W69 (Or.inr (slot_ne (t := .int) (t' := .long) (Or.inl (hw _ (List.mem_of_getElem? (i := 81) rfl))) (Or.inl (hw _ (List.mem_of_getElem? (i := 113) rfl))) (by decide) (by decide) (by decide))))
  have f77 := (((fw53.other W60 (Or.inl ne_a_u_t)).other W65 (Or.inr (slot_ne (t := .long) (t' := .long) (Or.inl (hw _ (List.mem_of_getElem? (i := 83) rfl))) (Or.inl (hw _ (List.mem_of_getElem? (i := 66) rfl))) (by decide) (by decide) (by decide)))).other W69 (Or.inr (slot_ne (t := .long) (t' := .long) (Or.inl (hw _ (List.mem_of_getElem? (i := 83) rfl))) (Or.inl (hw _ (List.mem_of_getElem? (i := 113) rfl))) (by decide) (by decide) (by decide))))
  have f78 := ((A60.other W65 (Ne.symm ne_a_u_t)).other W69 (Ne.symm ne_a_u_t))
  rw [e69]
  exact ⟨rfl, N69, kk69, f71, f72, f73, f74, (by unfold own_mvC3_newest; exact f75), (by unfold own_mvC3_newestNumber; exact fw69), (by unfold own_mvC3_newestSlot; exact f76), (by unfold own_mvC3_load; exact f77), (by unfold own_mvC3_ts; exact f78)⟩
def own_adC3_newest (u_b : Int64) (u_n : Int64) : Int64 := (own_mvC3_newest u_b u_n)
def own_adC3_newestNumber (u_m : Int64) : Int64 := (own_mvC3_newestNumber u_m)
def own_adC3_newestSlot (u_s : Int32) (ts : List Int64) : Int32 := (own_mvC3_newestSlot u_s ts)
def own_adC3_load (u_s : Int32) (u_l : Int64) (ts : List Int64) : Int64 := (own_mvC3_load u_s u_l ts)
def own_adC3_ts (u_s : Int32) (ts : List Int64) : List Int64 := (own_mvC3_ts u_s ts)
def Q_rm8_C3 (Z : State) (a : Addr) (p1 : Int64) (u_b : Int64) (u_w : Int64) (u_t : Addr) (u_n : Int64) (u_m : Int64) (u_s : Int32) (u_l : Int64) (ts : List Int64) (h0 : Heap) (n0 : Nat) (v : Option Value) (h : Heap) (L : List Loc) : Prop := v = none ∧ Fr n0 L ∧ Keep h0 h [a, u_t] ∧ Exa Z h a "com/example/eschborn/eschborn/engine/BucketWindow" ∧ Fld Z h a "com/example/eschborn/eschborn/engine/BucketWindow" "bucket" "J" (.long u_b) ∧ Fld Z h a "com/example/eschborn/eschborn/engine/BucketWindow" "window" "J" (.long u_w) ∧ Fld Z h a "com/example/eschborn/eschborn/engine/BucketWindow" "totals" "[J" (.ref u_t) ∧ Fld Z h a "com/example/eschborn/eschborn/engine/BucketWindow" "newest" "J" (.long (own_adC3_newest u_b u_n)) ∧ Fld Z h a "com/example/eschborn/eschborn/engine/BucketWindow" "newestNumber" "J" (.long (own_adC3_newestNumber u_m)) ∧ Fld Z h a "com/example/eschborn/eschborn/engine/BucketWindow" "newestSlot" "I" (.int (own_adC3_newestSlot u_s ts)) ∧ Fld Z h a "com/example/eschborn/eschborn/engine/BucketWindow" "load" "J" (.long (own_adC3_load u_s u_l ts)) ∧ own_LA Z h u_t (own_adC3_ts u_s ts)
set_option maxRecDepth 65536 in
set_option maxHeartbeats 40000000 in
theorem rm8_C3 (l : Launch) (Z : State) (a0 : Array Value) (hw : ∀ d ∈ tables_1, d.before a0 Z = true) (ws : List Jvm.Cond) (a : Addr) (p1 : Int64) (u_b : Int64) (u_w : Int64) (u_t : Addr) (u_n : Int64) (u_m : Int64) (u_s : Int32) (u_l : Int64) (ts : List Int64) (h0 : Heap) (n0 : Nat) (Z0 : n0 ≤ h0.size) (E_a : Exa Z h0 a "com/example/eschborn/eschborn/engine/BucketWindow") (F_a_bucket : Fld Z h0 a "com/example/eschborn/eschborn/engine/BucketWindow" "bucket" "J" (.long u_b)) (F_a_window : Fld Z h0 a "com/example/eschborn/eschborn/engine/BucketWindow" "window" "J" (.long u_w)) (F_a_totals : Fld Z h0 a "com/example/eschborn/eschborn/engine/BucketWindow" "totals" "[J" (.ref u_t)) (F_a_newest : Fld Z h0 a "com/example/eschborn/eschborn/engine/BucketWindow" "newest" "J" (.long u_n)) (F_a_newestNumber : Fld Z h0 a "com/example/eschborn/eschborn/engine/BucketWindow" "newestNumber" "J" (.long u_m)) (F_a_newestSlot : Fld Z h0 a "com/example/eschborn/eschborn/engine/BucketWindow" "newestSlot" "I" (.int u_s)) (F_a_load : Fld Z h0 a "com/example/eschborn/eschborn/engine/BucketWindow" "load" "J" (.long u_l)) (g_a : n0 ≤ a) (A_u_t : own_LA Z h0 u_t ts) (g_u_t : n0 ≤ u_t) (hm : ¬ own_cmpU (p1 - u_n) u_b < 0) (hnz : u_b ≠ 0) (hl : ¬ u_l = (0 : Int64)) (hk : (own_pas_r p1 u_b u_w u_n ts) = (3 : Int64)) (hn : ¬ (3 : Int64) = (Int32.ofNat ts.length).toInt64) (hs : ¬ u_s < 0 ∧ u_s.toNatClampNeg < ts.length) :
    MetFree l (⟨"com/example/eschborn/eschborn/engine/BucketWindow", "advance", "(J)V"⟩ : MethodName) (head1 (Jvm.Cond.code (⟨"com/example/eschborn/eschborn/engine/BucketWindow", "advance", "(J)V"⟩ : MethodName) prog_1_method_2_code 3 none :: ws) ({ frames := 4, cells := 0, slots := 0, locals := 66 } : Room)) (fun aa U => aa = #[(.ref a), (.long p1)] ∧ Z.Warmed39 U.vm ∧ U.heap = h0) (fun _ _ _ _ _ => True) (fun _ U o U' => ∃ v L, o = .returned v ∧ Q_rm8_C3 Z a p1 u_b u_w u_t u_n u_m u_s u_l ts h0 n0 v U'.heap L ∧ FrameEnd U o U' L ({ frames := 4, cells := 0, slots := 0, locals := 66 } : Room).cells ({ frames := 4, cells := 0, slots := 0, locals := 66 } : Room).slots) := by
  refine MetFree.of_bodySF (plainFor_of_name own_pn3) hisR ?_
  intro p e s m args below meth c s₁ Bd hml0 hP hK
  obtain ⟨rfl, hZ, hh⟩ := hP
  have hx := Bd.exec
  have hby := Bd.bytes
  have hml : c.maxLocals = 3 := hml0
  have hlk : meth.locks = false := BodyLoose.notSynchronized Bd
  have hown : s.vm.findClass "com/example/eschborn/eschborn/engine/BucketWindow" = some m.cls := findClass_of_methodNamed Bd.named
  have hnm := (name_of_methodNamed Bd.named Bd.method).1
  have X0 : Stand p l e ({ frames := 4, cells := 0, slots := 0, locals := 66 } : Room) s m #[(.ref a), (.long p1)] below meth c s₁ [] 0 0 := Stand.of_body Bd
  have e0 : s₁.heap = h0 := by rw [← hh, Bd.state]; rfl
  have N0 := Fr.nil n0
  show own_Go p e below s (Q_rm8_C3 Z a p1 u_b u_w u_t u_n u_m u_s u_l ts h0 n0) 0 0 (s₁.setTop (entryFrame m #[(.ref a), (.long p1)] 3))
  refine own_go (B := s₁.setTop (mkF m 0 #[.val (.ref a), .val (.long p1), .second] [])) (fun tgt cont => (XT.entry rfl).trans cont) ?_
  have ne_a_u_t := own_neA E_a (hw _ (List.mem_of_getElem? (i := 3) rfl)) A_u_t.arr
  refine own_go (B := s₁.setTop (mkF m 2 #[.val (.ref a), .val (.long p1), .second] [(.ref a), (.long p1)])) (fun tgt cont => ?_) ?_
  · refine XS.lloadN X0.here hx rfl (hb hby d8_0) rfl ?_
    refine XS.aloadN X0.here hx rfl (hb hby d8_1) rfl rfl ?_
    exact cont
  obtain ⟨T1, X1, e1, st1⟩ := getF X0 hx hZ hown (host := "") (Or.inl (hw _ (List.mem_of_getElem? (i := 65) rfl))) Via.refl e0 F_a_newest (g := (mkF m 2 #[.val (.ref a), .val (.long p1), .second] [(.ref a), (.long p1)])) rfl rfl (hb hby d8_2)
  refine own_go (fun tgt cont => st1 tgt cont) ?_
  show own_Go p e below s (Q_rm8_C3 Z a p1 u_b u_w u_t u_n u_m u_s u_l ts h0 n0) 0 0 (T1.setTop (mkF m 5 #[.val (.ref a), .val (.long p1), .second] [(.long u_n), (.long p1)]))
  refine own_go (B := T1.setTop (mkF m 7 #[.val (.ref a), .val (.long p1), .second] [(.ref a), (.long (p1 - u_n))])) (fun tgt cont => ?_) ?_
  · refine XS.lsub X1.here hx rfl (hb hby d8_5) rfl ?_
    refine XS.aloadN X1.here hx rfl (hb hby d8_6) rfl rfl ?_
    exact cont
  obtain ⟨T2, X2, e2, st2⟩ := getF X1 hx hZ hown (host := "") (Or.inl (hw _ (List.mem_of_getElem? (i := 43) rfl))) Via.refl e1 F_a_bucket (g := (mkF m 7 #[.val (.ref a), .val (.long p1), .second] [(.ref a), (.long (p1 - u_n))])) rfl rfl (hb hby d8_7)
  refine own_go (fun tgt cont => st2 tgt cont) ?_
  show own_Go p e below s (Q_rm8_C3 Z a p1 u_b u_w u_t u_n u_m u_s u_l ts h0 n0) 0 0 (T2.setTop (mkF m 10 #[.val (.ref a), .val (.long p1), .second] [(.long u_b), (.long (p1 - u_n))]))
  -- pc 10: Long.compareUnsigned
  obtain ⟨_, _, ⟨T3, L3, k3, n3⟩, -, X3, ⟨Lc3, hQ3, l3, y3, z3⟩, st3⟩ := Jvm.LawKit.callS X2 hx (y := (⟨"java/lang/Long", "compareUnsigned", "(JJ)I"⟩ : MethodName)) hown (mvT hZ (hw _ (List.mem_of_getElem? (i := 67) rfl))) (mvT hZ (hw _ (List.mem_of_getElem? (i := 68) rfl))) (mvT hZ (hw _ (List.mem_of_getElem? (i := 69) rfl))) (mvT hZ (hw _ (List.mem_of_getElem? (i := 70) rfl))) (by decide) (backOf (W := 0) (rm9 l Z a0 hw [] (p1 - u_n) u_b h0 n0 Z0 ) hZ (hw _ (List.mem_of_getElem? (i := 70) rfl)) (hw _ (List.mem_of_getElem? (i := 69) rfl)) (by decide) (by decide)) (g := (mkF m 10 #[.val (.ref a), .val (.long p1), .second] [(.long u_b), (.long (p1 - u_n))])) rfl (by rw [hml]; rfl) (argsL := [(.long (p1 - u_n)), (.long u_b)]) (rest := []) (lenOf own_pd1 rfl) rfl (by show 2 * 0 + _ ≤ _; exact Nat.le_of_eq rfl) (hb hby d8_10) (fun _ _ => ⟨rfl, e2, (by decide : 0 + 0 ≤ _), (by decide : 0 + 0 ≤ _)⟩)
  dsimp only [Pt.U, Pt.locs, Pt.cells, Pt.slots] at X3 l3 y3 z3 st3 hQ3
  subst l3 y3 z3
  obtain ⟨rfl, N3q, e3⟩ := hQ3
  have N3 := Fr.app N0 N3q
  refine own_go (fun tgt cont => st3 tgt cont) ?_
  show own_Go p e below s (Q_rm8_C3 Z a p1 u_b u_w u_t u_n u_m u_s u_l ts h0 n0) 0 0 (T3.setTop (mkF m 13 #[.val (.ref a), .val (.long p1), .second] [(.int (own_cmpU (p1 - u_n) u_b))]))
  refine own_go (B := T3.setTop (mkF m 18 #[.val (.ref a), .val (.long p1), .second] [(.long p1), (.ref a)])) (fun tgt cont => ?_) ?_
  · refine XS.ifNo X3.here hx rfl (hb hby d8_13) rfl (XT.i0_lt_f hm) ?_
    refine XS.aloadN X3.here hx rfl (hb hby d8_16) rfl rfl ?_
    refine XS.lloadN X3.here hx rfl (hb hby d8_17) rfl ?_
    exact cont
  -- pc 18: BucketWindow.moveOn
  obtain ⟨cc4, ca4, cb4⟩ := E_a.cell
  obtain ⟨_, _, ⟨T4, L4, k4, n4⟩, -, X4, ⟨Lc4, hQ4, l4, y4, z4⟩, st4⟩ := X3.privateBack hx (y := (⟨"com/example/eschborn/eschborn/engine/BucketWindow", "moveOn", "(J)V"⟩ : MethodName)) hown (mvT hZ (hw _ (List.mem_of_getElem? (i := 84) rfl))) (mvT hZ (hw _ (List.mem_of_getElem? (i := 85) rfl))) (own_selP hZ (hw _ (List.mem_of_getElem? (i := 3) rfl)) (hw _ (List.mem_of_getElem? (i := 85) rfl)) (hw _ (List.mem_of_getElem? (i := 86) rfl))) (Cond.privateMethod_at (mvP hZ (hw _ (List.mem_of_getElem? (i := 86) rfl)) (args := #[]))) (mvT hZ (hw _ (List.mem_of_getElem? (i := 87) rfl))) (by decide) (backOf (W := 0) (rm12_C3 l Z a0 hw [] a p1 u_b u_w u_t u_n u_m u_s u_l ts h0 n0 Z0 E_a F_a_bucket F_a_window F_a_totals F_a_newest F_a_newestNumber F_a_newestSlot F_a_load g_a A_u_t g_u_t hnz hl hk hn hs) hZ (hw _ (List.mem_of_getElem? (i := 87) rfl)) (hw _ (List.mem_of_getElem? (i := 4) rfl)) (by decide) (by decide)) (g := (mkF m 18 #[.val (.ref a), .val (.long p1), .second] [(.long p1), (.ref a)])) rfl (by rw [hml]; rfl) (Steps.refl _) (a := a) (by rw [e3]; exact ca4) cb4 (argsL := [(.long p1)]) (rest := []) (lenOf own_pd7 rfl) rfl (by show 2 * 0 + _ ≤ _; exact Nat.le_of_eq rfl) (hb hby d8_18) (fun _ _ => ⟨rfl, e3, (by decide : 0 + 0 + 0 ≤ _), (by decide : 0 + 0 + 0 ≤ _)⟩)
  dsimp only [Pt.U, Pt.locs, Pt.cells, Pt.slots] at X4 l4 y4 z4 st4 hQ4
  subst l4 y4 z4
  obtain ⟨rfl, N4q, K4, ex4_0, fa4_0, fa4_1, fa4_2, fa4_3, fa4_4, fa4_5, fa4_6, fa4_7⟩ := hQ4
  have N4 := Fr.app N3 N4q
  have kk4 : Keep h0 T4.heap [a, u_t] := (Keep.refl h0 [a, u_t]).trans K4 (allS (Or.inl (List.mem_of_getElem? (i := 0) rfl)) (allS (Or.inl (List.mem_of_getElem? (i := 1) rfl)) all0))
  have zp4 : n0 ≤ T4.heap.size := Nat.le_trans Z0 kk4.1
  refine own_go (fun tgt cont => st4.trans cont) ?_
  show own_Go p e below s (Q_rm8_C3 Z a p1 u_b u_w u_t u_n u_m u_s u_l ts h0 n0) 0 0 (T4.setTop (mkF m 21 #[.val (.ref a), .val (.long p1), .second] []))
  refine own_end X4 (v := none) (fun _ => rfl) hlk ?_ (by decide) (by decide) (fun fs hl => X4.returnOut hx Bd.returns (hb hby d8_21) hl)
  exact ⟨rfl, N4, kk4, ex4_0, fa4_0, fa4_1, fa4_2, (by unfold own_adC3_newest; exact fa4_3), (by unfold own_adC3_newestNumber; exact fa4_4), (by unfold own_adC3_newestSlot; exact fa4_5), (by unfold own_adC3_load; exact fa4_6), (by unfold own_adC3_ts; exact fa4_7)⟩
def Q_rm8_N (Z : State) (a : Addr) (p1 : Int64) (u_b : Int64) (u_w : Int64) (u_t : Addr) (u_n : Int64) (u_m : Int64) (u_s : Int32) (u_l : Int64) (ts : List Int64) (h0 : Heap) (n0 : Nat) (v : Option Value) (h : Heap) (L : List Loc) : Prop := v = none ∧ Fr n0 L ∧ h = h0
set_option maxRecDepth 65536 in
set_option maxHeartbeats 40000000 in
theorem rm8_N (l : Launch) (Z : State) (a0 : Array Value) (hw : ∀ d ∈ tables_1, d.before a0 Z = true) (ws : List Jvm.Cond) (a : Addr) (p1 : Int64) (u_b : Int64) (u_w : Int64) (u_t : Addr) (u_n : Int64) (u_m : Int64) (u_s : Int32) (u_l : Int64) (ts : List Int64) (h0 : Heap) (n0 : Nat) (Z0 : n0 ≤ h0.size) (E_a : Exa Z h0 a "com/example/eschborn/eschborn/engine/BucketWindow") (F_a_bucket : Fld Z h0 a "com/example/eschborn/eschborn/engine/BucketWindow" "bucket" "J" (.long u_b)) (F_a_window : Fld Z h0 a "com/example/eschborn/eschborn/engine/BucketWindow" "window" "J" (.long u_w)) (F_a_totals : Fld Z h0 a "com/example/eschborn/eschborn/engine/BucketWindow" "totals" "[J" (.ref u_t)) (F_a_newest : Fld Z h0 a "com/example/eschborn/eschborn/engine/BucketWindow" "newest" "J" (.long u_n)) (F_a_newestNumber : Fld Z h0 a "com/example/eschborn/eschborn/engine/BucketWindow" "newestNumber" "J" (.long u_m)) (F_a_newestSlot : Fld Z h0 a "com/example/eschborn/eschborn/engine/BucketWindow" "newestSlot" "I" (.int u_s)) (F_a_load : Fld Z h0 a "com/example/eschborn/eschborn/engine/BucketWindow" "load" "J" (.long u_l)) (A_u_t : own_LA Z h0 u_t ts) (hm : own_cmpU (p1 - u_n) u_b < 0)  :
    MetFree l (⟨"com/example/eschborn/eschborn/engine/BucketWindow", "advance", "(J)V"⟩ : MethodName) (head1 (Jvm.Cond.code (⟨"com/example/eschborn/eschborn/engine/BucketWindow", "advance", "(J)V"⟩ : MethodName) prog_1_method_2_code 3 none :: ws) ({ frames := 2, cells := 0, slots := 0, locals := 30 } : Room)) (fun aa U => aa = #[(.ref a), (.long p1)] ∧ Z.Warmed39 U.vm ∧ U.heap = h0) (fun _ _ _ _ _ => True) (fun _ U o U' => ∃ v L, o = .returned v ∧ Q_rm8_N Z a p1 u_b u_w u_t u_n u_m u_s u_l ts h0 n0 v U'.heap L ∧ FrameEnd U o U' L ({ frames := 2, cells := 0, slots := 0, locals := 30 } : Room).cells ({ frames := 2, cells := 0, slots := 0, locals := 30 } : Room).slots) := by
  refine MetFree.of_bodySF (plainFor_of_name own_pn3) hisR ?_
  intro p e s m args below meth c s₁ Bd hml0 hP hK
  obtain ⟨rfl, hZ, hh⟩ := hP
  have hx := Bd.exec
  have hby := Bd.bytes
  have hml : c.maxLocals = 3 := hml0
  have hlk : meth.locks = false := BodyLoose.notSynchronized Bd
  have hown : s.vm.findClass "com/example/eschborn/eschborn/engine/BucketWindow" = some m.cls := findClass_of_methodNamed Bd.named
  have hnm := (name_of_methodNamed Bd.named Bd.method).1
  have X0 : Stand p l e ({ frames := 2, cells := 0, slots := 0, locals := 30 } : Room) s m #[(.ref a), (.long p1)] below meth c s₁ [] 0 0 := Stand.of_body Bd
  have e0 : s₁.heap = h0 := by rw [← hh, Bd.state]; rfl
  have N0 := Fr.nil n0
  show own_Go p e below s (Q_rm8_N Z a p1 u_b u_w u_t u_n u_m u_s u_l ts h0 n0) 0 0 (s₁.setTop (entryFrame m #[(.ref a), (.long p1)] 3))
  refine own_go (B := s₁.setTop (mkF m 0 #[.val (.ref a), .val (.long p1), .second] [])) (fun tgt cont => (XT.entry rfl).trans cont) ?_
  have ne_a_u_t := own_neA E_a (hw _ (List.mem_of_getElem? (i := 3) rfl)) A_u_t.arr
  refine own_go (B := s₁.setTop (mkF m 2 #[.val (.ref a), .val (.long p1), .second] [(.ref a), (.long p1)])) (fun tgt cont => ?_) ?_
  · refine XS.lloadN X0.here hx rfl (hb hby d8_0) rfl ?_
    refine XS.aloadN X0.here hx rfl (hb hby d8_1) rfl rfl ?_
    exact cont
  obtain ⟨T1, X1, e1, st1⟩ := getF X0 hx hZ hown (host := "") (Or.inl (hw _ (List.mem_of_getElem? (i := 65) rfl))) Via.refl e0 F_a_newest (g := (mkF m 2 #[.val (.ref a), .val (.long p1), .second] [(.ref a), (.long p1)])) rfl rfl (hb hby d8_2)
  refine own_go (fun tgt cont => st1 tgt cont) ?_
  show own_Go p e below s (Q_rm8_N Z a p1 u_b u_w u_t u_n u_m u_s u_l ts h0 n0) 0 0 (T1.setTop (mkF m 5 #[.val (.ref a), .val (.long p1), .second] [(.long u_n), (.long p1)]))
  refine own_go (B := T1.setTop (mkF m 7 #[.val (.ref a), .val (.long p1), .second] [(.ref a), (.long (p1 - u_n))])) (fun tgt cont => ?_) ?_
  · refine XS.lsub X1.here hx rfl (hb hby d8_5) rfl ?_
    refine XS.aloadN X1.here hx rfl (hb hby d8_6) rfl rfl ?_
    exact cont
  obtain ⟨T2, X2, e2, st2⟩ := getF X1 hx hZ hown (host := "") (Or.inl (hw _ (List.mem_of_getElem? (i := 43) rfl))) Via.refl e1 F_a_bucket (g := (mkF m 7 #[.val (.ref a), .val (.long p1), .second] [(.ref a), (.long (p1 - u_n))])) rfl rfl (hb hby d8_7)
  refine own_go (fun tgt cont => st2 tgt cont) ?_
  show own_Go p e below s (Q_rm8_N Z a p1 u_b u_w u_t u_n u_m u_s u_l ts h0 n0) 0 0 (T2.setTop (mkF m 10 #[.val (.ref a), .val (.long p1), .second] [(.long u_b), (.long (p1 - u_n))]))
  -- pc 10: Long.compareUnsigned
  obtain ⟨_, _, ⟨T3, L3, k3, n3⟩, -, X3, ⟨Lc3, hQ3, l3, y3, z3⟩, st3⟩ := Jvm.LawKit.callS X2 hx (y := (⟨"java/lang/Long", "compareUnsigned", "(JJ)I"⟩ : MethodName)) hown (mvT hZ (hw _ (List.mem_of_getElem? (i := 67) rfl))) (mvT hZ (hw _ (List.mem_of_getElem? (i := 68) rfl))) (mvT hZ (hw _ (List.mem_of_getElem? (i := 69) rfl))) (mvT hZ (hw _ (List.mem_of_getElem? (i := 70) rfl))) (by decide) (backOf (W := 0) (rm9 l Z a0 hw [] (p1 - u_n) u_b h0 n0 Z0 ) hZ (hw _ (List.mem_of_getElem? (i := 70) rfl)) (hw _ (List.mem_of_getElem? (i := 69) rfl)) (by decide) (by decide)) (g := (mkF m 10 #[.val (.ref a), .val (.long p1), .second] [(.long u_b), (.long (p1 - u_n))])) rfl (by rw [hml]; rfl) (argsL := [(.long (p1 - u_n)), (.long u_b)]) (rest := []) (lenOf own_pd1 rfl) rfl (by show 2 * 0 + _ ≤ _; exact Nat.le_of_eq rfl) (hb hby d8_10) (fun _ _ => ⟨rfl, e2, (by decide : 0 + 0 ≤ _), (by decide : 0 + 0 ≤ _)⟩)
  dsimp only [Pt.U, Pt.locs, Pt.cells, Pt.slots] at X3 l3 y3 z3 st3 hQ3
  subst l3 y3 z3
  obtain ⟨rfl, N3q, e3⟩ := hQ3
  have N3 := Fr.app N0 N3q
  refine own_go (fun tgt cont => st3 tgt cont) ?_
  show own_Go p e below s (Q_rm8_N Z a p1 u_b u_w u_t u_n u_m u_s u_l ts h0 n0) 0 0 (T3.setTop (mkF m 13 #[.val (.ref a), .val (.long p1), .second] [(.int (own_cmpU (p1 - u_n) u_b))]))
  refine own_go (B := T3.setTop (mkF m 21 #[.val (.ref a), .val (.long p1), .second] [])) (fun tgt cont => ?_) ?_
  · refine XS.ifYes X3.here hx rfl (pc0 := 13) (pc' := 21) rfl (hb hby d8_13) rfl (XT.i0_lt_t hm) (by decide) (by decide) ?_
    exact cont
  refine own_end X3 (v := none) (fun _ => rfl) hlk ?_ (by decide) (by decide) (fun fs hl => X3.returnOut hx Bd.returns (hb hby d8_21) hl)
  exact ⟨rfl, N3, e3⟩
theorem own_fmT (x y : Int64) (hy : 0 < y.toInt) : (own_fm x y).toInt = x.toInt % y.toInt := by
  have e0 : (0 : Int64).toInt = 0 := rfl
  have m := Int64.toInt_mod x y
  have q := c_xorSL x y
  have b1 := Int.emod_nonneg x.toInt (b := y.toInt) (by omega)
  have b2 := Int.emod_lt_of_pos x.toInt hy
  have ry := rng64 y
  unfold own_fm
  simp only [Int64.lt_iff_toInt_lt, ← Int64.toInt_inj, e0]
  by_cases c : x.toInt < 0
  · rw [if_pos (q.2.1 c (by omega))]
    have t := (tr x.toInt y.toInt).2 c
    rw [t] at m
    have n1 := Int.emod_nonneg (-x.toInt) (b := y.toInt) (by omega)
    have n2 := Int.emod_lt_of_pos (-x.toInt) hy
    have n3 : x.toInt % y.toInt = if (-x.toInt) % y.toInt = 0 then 0 else y.toInt - (-x.toInt) % y.toInt := by
      have g1 := Int.mul_ediv_add_emod (-x.toInt) y.toInt
      generalize (-x.toInt) % y.toInt = r at *
      generalize (-x.toInt) / y.toInt = k at *
      split
      · rename_i hr
        have : x.toInt = y.toInt * (-k) := by rw [Int.mul_neg]; omega
        rw [this, Int.mul_emod_right]
      · have : x.toInt = (y.toInt - r) + y.toInt * (-k - 1) := by rw [Int.mul_sub, Int.mul_neg]; omega
        rw [this, Int.add_mul_emod_self_left, Int.emod_eq_of_lt (by omega) (by omega)]
    rw [n3]
    have a := c_ladd (x % y) y
    have r := rng64 (x % y + y)
    generalize x % y + y = Z at *
    generalize x % y = W at *
    generalize (-x.toInt) % y.toInt = R at *
    split <;> split <;> omega
  · rw [if_neg (by have := q.2.2.2 (by omega) (by omega); omega), m, Int.tmod_eq_emod_of_nonneg (by omega)]

theorem own_mulT (b : Int64) (n : Int32) (hb : 1 ≤ b.toInt ∧ b.toInt ≤ 288230376151711744) (hn : 1 ≤ n.toInt ∧ n.toInt ≤ 8) : (b * n.toInt64).toInt = b.toInt * n.toInt ∧ b.toInt ≤ b.toInt * n.toInt ∧ b.toInt * n.toInt ≤ 2305843009213693952 := by
  have a := c_lmul b n.toInt64
  rw [c_i2l] at a
  have r := rng64 (b * n.toInt64)
  generalize b * n.toInt64 = z at *
  have k : n.toInt = 1 ∨ n.toInt = 2 ∨ n.toInt = 3 ∨ n.toInt = 4 ∨ n.toInt = 5 ∨ n.toInt = 6 ∨ n.toInt = 7 ∨ n.toInt = 8 := by omega
  rcases k with k | k | k | k | k | k | k | k <;> rw [k] at a ⊢ <;> omega
theorem own_divT (b : Int64) (n : Int32) (hb : 1 ≤ b.toInt ∧ b.toInt ≤ 288230376151711744) (hn : 1 ≤ n.toInt ∧ n.toInt ≤ 8) : ((b * n.toInt64) / b).toInt = n.toInt := by
  obtain ⟨m, m1, -⟩ := own_mulT b n hb hn
  have h := (c_ldiv (b * n.toInt64) b b.toInt rfl (by intro e; rw [e] at hb; exact absurd hb.1 (by decide))).1 (by omega)
  rw [h, m, Int.mul_ediv_cancel_left _ (by omega)]
theorem own_modT (b : Int64) (n : Int32) (hb : 1 ≤ b.toInt ∧ b.toInt ≤ 288230376151711744) (hn : 1 ≤ n.toInt ∧ n.toInt ≤ 8) : (b * n.toInt64) % b = 0 := by
  obtain ⟨m, m1, -⟩ := own_mulT b n hb hn
  apply Int64.toInt_inj.mp
  rw [Int64.toInt_mod, m, Int.mul_tmod_right]; rfl
theorem own_lrT (b : Int64) (n : Int32) (hb : 1 ≤ b.toInt ∧ b.toInt ≤ 288230376151711744) (hn : 1 ≤ n.toInt ∧ n.toInt ≤ 8) : own_lrn_r (b * n.toInt64) b = Int32.ofNat n.toNatClampNeg := by
  have h := own_divT b n hb hn
  unfold own_lrn_r
  generalize (b * n.toInt64) / b = q at *
  apply Int32.toInt_inj.mp
  have c := c_l2i q
  have r := rng32 q.toInt32
  rw [Int32.toNatClampNeg, own_toI (by omega)]
  generalize q.toInt32 = z at *
  omega
theorem own_pos {b : Int64} (hb : 1 ≤ b.toInt) : (0 : Int64) < b := by rw [Int64.lt_iff_toInt_lt]; exact hb
theorem own_nzb {b : Int64} (hb : 1 ≤ b.toInt) : b ≠ 0 := by intro e; rw [e] at hb; exact absurd hb (by decide)
theorem own_q4 (b : Int64) (n : Int32) (hb : 1 ≤ b.toInt ∧ b.toInt ≤ 288230376151711744) (hn : 1 ≤ n.toInt ∧ n.toInt ≤ 8) : ¬ (1000000 : Int64) < ((b * n.toInt64) / b) := by
  rw [Int64.lt_iff_toInt_lt, own_divT b n hb hn]
  have e : (1000000 : Int64).toInt = 1000000 := rfl
  omega
theorem own_q10 (b : Int64) (n : Int32) (hb : 1 ≤ b.toInt ∧ b.toInt ≤ 288230376151711744) (hn : 1 ≤ n.toInt ∧ n.toInt ≤ 8) : ¬ ((((9223372036854775807 : Int64) - (0 : Int64)) - (0 : Int64)) / (2 : Int64)) < (b * n.toInt64) := by
  obtain ⟨m, m1, m2⟩ := own_mulT b n hb hn
  have e : ((((9223372036854775807 : Int64) - (0 : Int64)) - (0 : Int64)) / (2 : Int64)).toInt = 4611686018427387903 := by decide
  rw [Int64.lt_iff_toInt_lt, m, e]
  omega
theorem own_tm (x b : Int64) (hb : 1 ≤ b.toInt ∧ b.toInt ≤ 288230376151711744) (hx : -4611686018427387904 ≤ x.toInt) : ¬ x < ((-9223372036854775808 : Int64) + (own_fm x b)) := by
  have f := own_fmT x b (by omega)
  have g2 := Int.emod_nonneg x.toInt (b := b.toInt) (by omega)
  have g3 := Int.emod_lt_of_pos x.toInt (b := b.toInt) (by omega)
  generalize own_fm x b = F at *
  have a := c_ladd (-9223372036854775808) F
  have e : (-9223372036854775808 : Int64).toInt = -9223372036854775808 := rfl
  rw [e] at a
  have r := rng64 ((-9223372036854775808 : Int64) + F)
  generalize (-9223372036854775808 : Int64) + F = z at *
  rw [Int64.lt_iff_toInt_lt]
  omega
theorem own_tlen (n : Int32) (hn : 1 ≤ n.toInt ∧ n.toInt ≤ 8) : (Int32.ofNat (own_bwi_totals n.toNatClampNeg).length) = n := by
  unfold own_bwi_totals
  rw [List.length_replicate]
  apply Int32.toInt_inj.mp
  rw [Int32.toNatClampNeg, own_toI (by omega)]
  omega
theorem own_tnz (n : Int32) (hn : 1 ≤ n.toInt ∧ n.toInt ≤ 8) : (Int32.ofNat (own_bwi_totals n.toNatClampNeg).length).toInt64 ≠ 0 := by
  rw [own_tlen n hn]
  intro e
  have q := c_i2l n
  rw [e] at q
  have e0 : (0 : Int64).toInt = 0 := rfl
  omega

theorem own_cmpUT (x y : Int64) (hy : 0 ≤ y.toInt) : own_cmpU x y < 0 ↔ 0 ≤ x.toInt ∧ x.toInt < y.toInt := by
  have e : (-9223372036854775808 : Int64).toInt = -9223372036854775808 := rfl
  have a := c_ladd x (-9223372036854775808)
  have b := c_ladd y (-9223372036854775808)
  rw [e] at a b
  have r1 := rng64 x
  have r2 := rng64 y
  have r3 := rng64 (x + -9223372036854775808)
  have r4 := rng64 (y + -9223372036854775808)
  unfold own_cmpU own_cmp
  simp only [Int64.lt_iff_toInt_lt, ← Int64.toInt_inj]
  generalize x + -9223372036854775808 = X at *
  generalize y + -9223372036854775808 = Y at *
  split
  · exact ⟨fun _ => by omega, fun _ => by decide⟩
  · split
    · exact ⟨fun h => absurd h (by decide), fun _ => by omega⟩
    · exact ⟨fun h => absurd h (by decide), fun _ => by omega⟩
theorem own_flT (t b : Int64) (hb : 1 ≤ b.toInt ∧ b.toInt ≤ 288230376151711744) (ht : -4611686018427387904 ≤ t.toInt) : (own_fl t b).toInt = b.toInt * (t.toInt / b.toInt) := by
  have f := own_fmT t b (by omega)
  have g2 := Int.emod_nonneg t.toInt (b := b.toInt) (by omega)
  have g3 := Int.emod_lt_of_pos t.toInt (b := b.toInt) (by omega)
  have g4 := Int.mul_ediv_add_emod t.toInt b.toInt
  have a := c_lsub t (own_fm t b)
  have r := rng64 t
  have r2 := rng64 (t - own_fm t b)
  unfold own_fl
  rw [f] at a
  generalize t - own_fm t b = z at *
  generalize b.toInt * (t.toInt / b.toInt) = y at *
  generalize t.toInt % b.toInt = x at *
  omega
theorem own_fdT (x y : Int64) (k : Int) (hy : 1 ≤ y.toInt) (hx : x.toInt = y.toInt * k) (hk : -9223372036854775808 ≤ k ∧ k ≤ 9223372036854775807) : (own_fd x y).toInt = k := by
  have d : (x / y).toInt = k := by
    rw [Int64.toInt_div_of_ne_right x y (by intro e; rw [e] at hy; exact absurd hy (by decide)), hx, Int.mul_tdiv_cancel_left _ (by omega)]
  have m : (x / y) * y = x := by
    have a := c_lmul (x / y) y
    rw [d, Int.mul_comm, ← hx] at a
    have r := rng64 x
    have r2 := rng64 (x / y * y)
    apply Int64.toInt_inj.mp
    generalize x / y * y = z at *
    omega
  unfold own_fd
  by_cases c : (x ^^^ y) < (0 : Int64)
  · rw [if_pos c, if_pos m]; exact d
  · rw [if_neg c]; exact d
theorem own_fmiT (m : Int64) (n : Nat) (h1 : 1 ≤ n) (h2 : n < 2147483648) : (own_fmi m (Int32.ofNat n)).toInt = m.toInt % (n : Int) := by
  have f := own_fmT m (Int32.ofNat n).toInt64 (by rw [c_i2l, own_toI h2]; omega)
  rw [c_i2l, own_toI h2] at f
  have g2 := Int.emod_nonneg m.toInt (b := (n : Int)) (by omega)
  have g3 := Int.emod_lt_of_pos m.toInt (b := (n : Int)) (by omega)
  unfold own_fmi
  have c := c_l2i (own_fm m (Int32.ofNat n).toInt64)
  have r := rng32 (own_fm m (Int32.ofNat n).toInt64).toInt32
  rw [f] at c
  generalize (own_fm m (Int32.ofNat n).toInt64).toInt32 = z at *
  generalize m.toInt % (n : Int) = y at *
  omega
def own_F (t b : Int) (n : Nat) (w m : Int64) (s : Int32) : Prop := w.toInt = b * (t / b) ∧ m.toInt = t / b ∧ s.toInt = (t / b) % (n : Int)
theorem own_F0 (b : Int) (n : Nat) : own_F 0 b n 0 0 0 := by
  refine ⟨?_, ?_, ?_⟩
  · rw [Int.zero_ediv, Int.mul_zero]; rfl
  · rw [Int.zero_ediv]; rfl
  · rw [Int.zero_ediv, Int.zero_emod]; rfl
theorem own_rstF (t b : Int64) (ts : List Int64) (n : Nat) (hl : ts.length = n) (h1 : 1 ≤ n) (h2 : n < 2147483648) (hb : 1 ≤ b.toInt ∧ b.toInt ≤ 288230376151711744) (ht : -4611686018427387904 ≤ t.toInt) :
    own_F t.toInt b.toInt n (own_rst_newest t b) (own_rst_newestNumber t b) (own_rst_newestSlot t b ts) := by
  have f := own_flT t b hb ht
  have d := own_fdT (own_fl t b) b (t.toInt / b.toInt) hb.1 f (by
    have r := rng64 t
    have q2 : -9223372036854775808 ≤ t.toInt / b.toInt := Int.le_ediv_of_mul_le (by omega) (by omega)
    refine ⟨q2, ?_⟩
    exact Int.ediv_le_of_le_mul (by omega) (by omega))
  refine ⟨f, d, ?_⟩
  unfold own_rst_newestSlot
  rw [hl, own_fmiT _ n h1 h2, d]
theorem own_span (t t2 b : Int64) (w : Int64) (hw : w.toInt = b.toInt * (t.toInt / b.toInt)) (hb : 1 ≤ b.toInt ∧ b.toInt ≤ 288230376151711744) (ht : -2305843009213693952 ≤ t.toInt ∧ t.toInt ≤ 5764607523034234880) (ht2 : -2305843009213693952 ≤ t2.toInt ∧ t2.toInt ≤ 5764607523034234880) : (t2 - w).toInt = t2.toInt - b.toInt * (t.toInt / b.toInt) := by
  have g2 := Int.emod_nonneg t.toInt (b := b.toInt) (by omega)
  have g3 := Int.emod_lt_of_pos t.toInt (b := b.toInt) (by omega)
  have g4 := Int.mul_ediv_add_emod t.toInt b.toInt
  have a := c_lsub t2 w
  have r := rng64 (t2 - w)
  rw [hw] at a
  generalize t2 - w = z at *
  generalize b.toInt * (t.toInt / b.toInt) = y at *
  generalize t.toInt % b.toInt = x at *
  omega
theorem own_adAF (t t2 b w m : Int64) (s : Int32) (ts : List Int64) (n : Nat) (hF : own_F t.toInt b.toInt n w m s) (hl : ts.length = n) (h1 : 1 ≤ n) (h2 : n < 2147483648) (hb : 1 ≤ b.toInt ∧ b.toInt ≤ 288230376151711744) (ht : -2305843009213693952 ≤ t.toInt ∧ t.toInt ≤ 5764607523034234880) (ht2 : -2305843009213693952 ≤ t2.toInt ∧ t2.toInt ≤ 5764607523034234880) :
    own_F t2.toInt b.toInt n (own_adA_newest t2 b w) (own_adA_newestNumber t2 b w m) (own_adA_newestSlot t2 b w s ts) := by
  have sp := own_span t t2 b w hF.1 hb ht ht2
  unfold own_adA_newest own_adA_newestNumber own_adA_newestSlot
  by_cases c : own_cmpU (t2 - w) b < 0
  · rw [if_pos c, if_pos c, if_pos c]
    rw [own_cmpUT _ _ (by omega), sp] at c
    have e : t2.toInt / b.toInt = t.toInt / b.toInt := by
      generalize t.toInt / b.toInt = q at *
      have : t2.toInt = (t2.toInt - b.toInt * q) + b.toInt * q := by omega
      rw [this, Int.add_mul_ediv_left _ _ (by omega), Int.ediv_eq_zero_of_lt (by omega) (by omega)]
      omega
    unfold own_F
    rw [e]; exact hF
  · rw [if_neg c, if_neg c, if_neg c]
    exact own_rstF t2 b ts n hl h1 h2 hb (by omega)
theorem own_hsF {s : Int32} {q : Int} {n : Nat} {ts : List Int64} (h : s.toInt = q % (n : Int)) (hl : ts.length = n) (h1 : 1 ≤ n) : ¬ s < 0 ∧ s.toNatClampNeg < ts.length := by
  have g2 := Int.emod_nonneg q (b := (n : Int)) (by omega)
  have g3 := Int.emod_lt_of_pos q (b := (n : Int)) (by omega)
  have e0 : (0 : Int32).toInt = 0 := rfl
  rw [Int32.lt_iff_toInt_lt, Int32.toNatClampNeg, hl, h, e0]
  generalize q % (n : Int) = y at *
  omega
theorem own_pasT (t t2 b w win : Int64) (ts : List Int64) (n : Nat) (hw : w.toInt = b.toInt * (t.toInt / b.toInt)) (hl : ts.length = n) (hn : 1 ≤ n ∧ n ≤ 4) (hb : 1 ≤ b.toInt ∧ b.toInt ≤ 288230376151711744) (hwin : win.toInt = b.toInt * n) (ht : -2305843009213693952 ≤ t.toInt ∧ t.toInt ≤ 5764607523034234880) (ht2 : -2305843009213693952 ≤ t2.toInt ∧ t2.toInt ≤ 5764607523034234880) (h12 : t.toInt ≤ t2.toInt) :
    (own_pas_r t2 b win w ts).toInt = if t2.toInt / b.toInt - t.toInt / b.toInt < n then t2.toInt / b.toInt - t.toInt / b.toInt else n := by
  have sp := own_span t t2 b w hw hb ht ht2
  have g2 := Int.emod_nonneg t.toInt (b := b.toInt) (by omega)
  have g4 := Int.mul_ediv_add_emod t.toInt b.toInt
  have s0 : 0 ≤ (t2 - w).toInt := by omega
  have d : t2.toInt / b.toInt - t.toInt / b.toInt = (t2 - w).toInt / b.toInt := by
    rw [sp]
    generalize t.toInt / b.toInt = q at *
    have : t2.toInt - b.toInt * q = t2.toInt + b.toInt * (-q) := by rw [Int.mul_neg]; omega
    rw [this, Int.add_mul_ediv_left _ _ (by omega)]; omega
  rw [d]
  unfold own_pas_r
  have c1 := own_cmpUT (t2 - w) b (by omega)
  have c2 := own_cmpUT (t2 - w) win (by rw [hwin]; exact Int.mul_nonneg (by omega) (by omega))
  rw [hwin] at c2
  by_cases c : (t2 - w).toInt < b.toInt
  · rw [if_pos (c1.mpr ⟨s0, c⟩), Int.ediv_eq_zero_of_lt s0 c, if_pos (by omega)]; rfl
  · rw [if_neg (fun h => c (c1.mp h).2)]
    by_cases c3 : (t2 - w).toInt < b.toInt * n
    · rw [if_pos (c2.mpr ⟨s0, c3⟩), if_pos (Int.ediv_lt_of_lt_mul (by omega) (by rw [Int.mul_comm]; exact c3))]
      exact (c_ldiv (t2 - w) b b.toInt rfl (by intro e; rw [e] at hb; exact absurd hb.1 (by decide))).1 s0
    · rw [if_neg (fun h => c3 (c2.mp h).2), if_neg (by
        intro h
        exact c3 (by have := Int.lt_mul_of_ediv_lt (show 0 < b.toInt by omega) h; rw [Int.mul_comm]; exact this))]
      rw [c_i2l, hl, own_toI (by omega)]
theorem own_aftT {s : Int32} {q : Int} {n : Nat} {ts : List Int64} (h : s.toInt = q % (n : Int)) (hl : ts.length = n) (hn : 1 ≤ n ∧ n ≤ 4) : (own_aft_r s ts).toInt = (q + 1) % (n : Int) := by
  have e0 : (0 : Int32).toInt = 0 := rfl
  have e1 : (1 : Int32).toInt = 1 := rfl
  have a := c_iadd s 1
  rw [e1] at a
  have r := rng32 (s + 1)
  unfold own_aft_r
  have ce : s + 1 = Int32.ofNat ts.length ↔ (s + 1).toInt = n := by rw [← Int32.toInt_inj, hl, own_toI (by omega)]
  have k : n = 1 ∨ n = 2 ∨ n = 3 ∨ n = 4 := by omega
  by_cases c : s + 1 = Int32.ofNat ts.length
  · rw [if_pos c, e0]
    have c' := ce.mp c
    generalize s + 1 = z at *
    clear c ce hl
    rcases k with rfl | rfl | rfl | rfl <;> omega
  · rw [if_neg c]
    have c' : ¬ (s + 1).toInt = n := fun q => c (ce.mpr q)
    generalize s + 1 = z at *
    clear c ce hl
    rcases k with rfl | rfl | rfl | rfl <;> omega
def own_T (ts : List Int64) (n : Nat) (f : Nat → Int64) : Prop := ts.length = n ∧ ∀ j, j < n → ts.getD j 0 = f j
theorem own_T_set {ts : List Int64} {n : Nat} {f : Nat → Int64} {i : Nat} {v : Int64} (h : own_T ts n f) (hi : i < n) : own_T (ts.set i v) n (fun j => if j = i then v else f j) := by
  refine ⟨by rw [List.length_set]; exact h.1, fun j hj => ?_⟩
  have q := h.2 j hj
  show (ts.set i v).getD j 0 = if j = i then v else f j
  rw [List.getD_eq_getElem?_getD] at q ⊢
  by_cases c : j = i
  · rw [if_pos c, c, List.getElem?_set_self (by rw [h.1]; exact hi)]; rfl
  · rw [if_neg c, List.getElem?_set_ne (by omega)]; exact q
theorem own_T_rep (n : Nat) : own_T (List.replicate n 0) n (fun _ => 0) := by
  refine ⟨List.length_replicate, fun j hj => ?_⟩
  rw [List.getD_eq_getElem?_getD, List.getElem?_replicate, if_pos hj]; rfl
theorem own_leaT {x m : Int64} {s : Int32} {ts : List Int64} {q k : Int} {n : Nat} (h : s.toInt = q % (n : Int)) (hl : ts.length = n) (hn : 1 ≤ n ∧ n ≤ 4) (hk : ((m - x) + (Int32.ofNat ts.length).toInt64).toInt = k) :
    own_lea_r x m s ts = if 0 ≤ k ∧ k < n then ts.getD ((q - k) % (n : Int)).toNat 0 else 0 := by
  unfold own_lea_r
  have e0 : (0 : Int64).toInt = 0 := rfl
  have e1 : (0 : Int32).toInt = 0 := rfl
  have tl : ts.length < 2147483648 := by omega
  by_cases c1 : ((m - x) + (Int32.ofNat ts.length).toInt64) < (0 : Int64)
  · rw [if_pos c1, if_neg]
    rw [Int64.lt_iff_toInt_lt, hk, e0] at c1
    omega
  · rw [if_neg c1]
    by_cases c2 : ((m - x) + (Int32.ofNat ts.length).toInt64) < (Int32.ofNat ts.length).toInt64
    · obtain ⟨k1, k2, k3⟩ := own_lvC tl c1 c2
      rw [if_pos c2]
      rw [hk] at k1 k2 k3
      rw [if_pos (show 0 ≤ k ∧ k < (n : Int) from ⟨k2, by omega⟩)]
      have a := c_isub s ((m - x) + (Int32.ofNat ts.length).toInt64).toInt32
      have r := rng32 (s - ((m - x) + (Int32.ofNat ts.length).toInt64).toInt32)
      have b := c_iadd (s - ((m - x) + (Int32.ofNat ts.length).toInt64).toInt32) (Int32.ofNat ts.length)
      have r2 := rng32 ((s - ((m - x) + (Int32.ofNat ts.length).toInt64).toInt32) + (Int32.ofNat ts.length))
      rw [k1] at a
      rw [own_toI tl] at b
      clear c1 c2 hk k1
      generalize (s - ((m - x) + (Int32.ofNat ts.length).toInt64).toInt32) + (Int32.ofNat ts.length) = Y at *
      generalize (s - ((m - x) + (Int32.ofNat ts.length).toInt64).toInt32) = Z at *
      by_cases c3 : Z < 0
      · rw [if_pos c3, Int32.toNatClampNeg]
        rw [Int32.lt_iff_toInt_lt, e1] at c3
        congr 2
        rw [hl] at b k3
        have kk : n = 1 ∨ n = 2 ∨ n = 3 ∨ n = 4 := by omega
        rcases kk with rfl | rfl | rfl | rfl <;> omega
      · rw [if_neg c3, Int32.toNatClampNeg]
        rw [Int32.lt_iff_toInt_lt, e1] at c3
        congr 2
        rw [hl] at b k3
        have kk : n = 1 ∨ n = 2 ∨ n = 3 ∨ n = 4 := by omega
        rcases kk with rfl | rfl | rfl | rfl <;> omega
    · rw [if_neg c2, if_neg]
      rw [Int64.lt_iff_toInt_lt, hk, c_i2l, own_toI tl] at c2
      omega

theorem own_nat (n : Int32) (h : 1 ≤ n.toInt ∧ n.toInt ≤ 4) : (n.toNatClampNeg : Int) = n.toInt ∧ 1 ≤ n.toNatClampNeg ∧ n.toNatClampNeg ≤ 4 := by
  rw [Int32.toNatClampNeg]; omega
theorem own_addT {ts : List Int64} {n : Nat} {f : Nat → Int64} {s : Int32} {v : Int64} (h : own_T ts n f) (hi : s.toNatClampNeg < n) : own_T (own_add_ts v s ts) n (fun j => if j = s.toNatClampNeg then f s.toNatClampNeg + v else f j) := by
  unfold own_add_ts
  rw [h.2 _ hi]
  exact own_T_set h hi
theorem own_snat {s : Int32} {q : Int} {n : Nat} (h : s.toInt = q % (n : Int)) : s.toNatClampNeg = (q % (n : Int)).toNat := by
  rw [Int32.toNatClampNeg, h]
theorem own_nlt (q : Int) (n : Nat) (h : 1 ≤ n) : (q % (n : Int)).toNat < n := by
  have g2 := Int.emod_nonneg q (b := (n : Int)) (by omega)
  have g3 := Int.emod_lt_of_pos q (b := (n : Int)) (by omega)
  generalize q % (n : Int) = y at *
  omega

theorem own_n1 (p : Int32) : 1 ≤ ((p &&& (3 : Int32)) + (1 : Int32)).toInt ∧ ((p &&& (3 : Int32)) + (1 : Int32)).toInt ≤ 4 := by
  have h := c_mask p 3 2 (by decide) (by decide)
  generalize (p &&& 3) = y at *
  have a := c_iadd y 1
  have e1 : (1 : Int32).toInt = 1 := rfl
  rw [e1] at a
  have r := rng32 (y + 1)
  generalize y + 1 = z at *
  omega
theorem own_n8 (p : Int32) : 1 ≤ ((p &&& (3 : Int32)) + (1 : Int32)).toInt ∧ ((p &&& (3 : Int32)) + (1 : Int32)).toInt ≤ 8 := by
  have h := own_n1 p
  omega
theorem own_s7 (p : Int32) : 0 ≤ (p &&& (7 : Int32)).toInt ∧ (p &&& (7 : Int32)).toInt ≤ 7 := by
  have h := c_mask p 7 3 (by decide) (by decide)
  generalize (p &&& 7) = y at *
  omega
theorem own_t1 (p1 : Int64) : -2305843009213693952 ≤ (p1 >>> ((2 : Int32) &&& 0x3f).toInt64).toInt ∧ (p1 >>> ((2 : Int32) &&& 0x3f).toInt64).toInt ≤ 2305843009213693951 := by
  have s := c_lshr p1 2 2 rfl
  have r := rng64 p1
  generalize (p1 >>> ((2 : Int32) &&& 0x3f).toInt64) = x at *
  omega
theorem own_t1s (t : Int64) (s : Int32) (ht : -2305843009213693952 ≤ t.toInt ∧ t.toInt ≤ 2305843009213693951) (hs : 0 ≤ s.toInt ∧ s.toInt ≤ 7) : (t + s.toInt64).toInt = t.toInt + s.toInt := by
  have a := c_ladd t s.toInt64
  rw [c_i2l] at a
  have r := rng64 (t + s.toInt64)
  generalize t + s.toInt64 = z at *
  omega
theorem own_F1 {t : Int} {n : Nat} {w m : Int64} {s : Int32} (h : own_F t (1 : Int64).toInt n w m s) : w.toInt = t ∧ m.toInt = t ∧ s.toInt = t % (n : Int) := by
  have e : (1 : Int64).toInt = 1 := rfl
  unfold own_F at h
  rw [e, Int.ediv_one, Int.one_mul] at h
  exact h
theorem own_TT1 {s : Int32} {q : Int} {n : Nat} (a : Int64) (h : s.toInt = q % (n : Int)) (h1 : 1 ≤ n) : own_T (own_add_ts a s (own_bwi_totals n)) n (fun j => if j = (q % (n : Int)).toNat then a else 0) := by
  have hi : s.toNatClampNeg < n := by rw [own_snat h]; exact own_nlt q n h1
  have T := own_addT (v := a) (own_T_rep n) hi
  refine ⟨T.1, fun j hj => ?_⟩
  rw [← own_snat h]
  have e := T.2 j hj
  show _ = if j = s.toNatClampNeg then a else 0
  rw [show (own_add_ts a s (own_bwi_totals n)).getD j 0 = _ from e]
  show (if j = s.toNatClampNeg then (0 : Int64) + a else 0) = if j = s.toNatClampNeg then a else 0
  rw [Int64.zero_add]
theorem own_LL1 (a : Int64) : own_add_load a (0 : Int64) = a := Int64.zero_add a
def own_f1 (q k : Int) (n : Nat) (a : Int64) (j : Nat) : Int64 := if j = ((q + k) % (n : Int)).toNat then (if k = 0 then a else 0) else if k < (n : Int) ∧ j = (q % (n : Int)).toNat then a else 0
def own_P1 (q k : Int) (n : Nat) (m : Int64) (s : Int32) (ts : List Int64) (a : Int64) : Prop := m.toInt = q + k ∧ s.toInt = (q + k) % (n : Int) ∧ own_T ts n (own_f1 q k n a)
theorem own_T_fun {ts : List Int64} {n : Nat} {f g : Nat → Int64} (h : own_T ts n f) (e : ∀ j, j < n → f j = g j) : own_T ts n g := ⟨h.1, fun j hj => (h.2 j hj).trans (e j hj)⟩
theorem own_P1N {q : Int} {n : Nat} {m : Int64} {s : Int32} {ts : List Int64} {a : Int64} (hm : m.toInt = q) (h : s.toInt = q % (n : Int)) (hT : own_T ts n (fun j => if j = (q % (n : Int)).toNat then a else 0)) : own_P1 q 0 n m s ts a := by
  refine ⟨by rw [Int.add_zero]; exact hm, by rw [Int.add_zero]; exact h, own_T_fun hT (fun j _ => ?_)⟩
  unfold own_f1
  rw [Int.add_zero]
  by_cases c : j = (q % (n : Int)).toNat
  · rw [if_pos c, if_pos c, if_pos rfl]
  · rw [if_neg c, if_neg c, if_neg (fun q => c q.2)]
theorem own_P1A {q k : Int} {n : Nat} {w m : Int64} {s : Int32} {ts : List Int64} {a : Int64} {t2 : Int} (F : own_F t2 (1 : Int64).toInt n w m s) (h2 : t2 = q + k) (hT : own_T ts n (fun j => if j = (q % (n : Int)).toNat then a else 0)) (ha : a = 0) : own_P1 q k n m s ts a := by
  obtain ⟨-, F2, F3⟩ := own_F1 F
  rw [h2] at F2 F3
  refine ⟨F2, F3, own_T_fun hT (fun j _ => ?_)⟩
  unfold own_f1
  rw [ha]
  split <;> split <;> first | rfl | (split <;> rfl)
theorem own_P1B {q k : Int} {n : Nat} {t2 : Int64} {ts : List Int64} {a : Int64} (h2 : t2.toInt = q + k) (hl : ts.length = n) (hn : 1 ≤ n ∧ n ≤ 4) (hk : (n : Int) ≤ k) (ht : -4611686018427387904 ≤ t2.toInt) : own_P1 q k n (own_adB_newestNumber t2 1) (own_adB_newestSlot t2 1 ts) (own_adB_ts ts) a := by
  have F := own_rstF t2 1 (List.replicate ts.length 0) n (by rw [List.length_replicate, hl]) hn.1 (by omega) (by decide) ht
  obtain ⟨-, F2, F3⟩ := own_F1 F
  rw [h2] at F2 F3
  have e : own_adB_ts ts = List.replicate n 0 := by show List.replicate ts.length (0 : Int64) = _; rw [hl]
  have e2 : own_adB_newestSlot t2 1 ts = own_rst_newestSlot t2 1 (List.replicate ts.length 0) := rfl
  rw [e, e2]
  refine ⟨F2, F3, own_T_fun (own_T_rep n) (fun j _ => ?_)⟩
  unfold own_f1
  rw [if_neg (show ¬ k = 0 by omega), if_neg (show ¬ (k < (n : Int) ∧ j = (q % (n : Int)).toNat) from fun h => by have := h.1; omega)]
  split <;> rfl
theorem own_stT {q : Int} {n : Nat} {s : Int32} {ts : List Int64} {f : Nat → Int64} (h : s.toInt = q % (n : Int)) (hn : 1 ≤ n ∧ n ≤ 4) (hT : own_T ts n f) : (own_aft_r s ts).toInt = (q + 1) % (n : Int) ∧ own_T (ts.set (own_aft_r s ts).toNatClampNeg 0) n (fun j => if j = ((q + 1) % (n : Int)).toNat then 0 else f j) := by
  have A := own_aftT h hT.1 hn
  refine ⟨A, ?_⟩
  rw [own_snat A]
  exact own_T_set hT (own_nlt _ _ hn.1)
theorem own_ladd {m : Int64} {q : Int} (k : Int64) (k' : Int) (hk : k.toInt = k') (h : m.toInt = q) (hq : -2305843009213693952 ≤ q ∧ q ≤ 2305843009213693951) (hk7 : 0 ≤ k' ∧ k' ≤ 7) : (m + k).toInt = q + k' := by
  have a := c_ladd m k
  have r := rng64 (m + k)
  generalize m + k = z at *
  omega
theorem own_P1C1 {q : Int} {n : Nat} {m : Int64} {s : Int32} {ts : List Int64} {a : Int64} (hm : m.toInt = q) (h : s.toInt = q % (n : Int)) (hT : own_T ts n (fun j => if j = (q % (n : Int)).toNat then a else 0)) (hn : 1 ≤ n ∧ n ≤ 4) (hk : 1 < n) (hq : -2305843009213693952 ≤ q ∧ q ≤ 2305843009213693951) : own_P1 q 1 n (own_adC1_newestNumber m) (own_adC1_newestSlot s ts) (own_adC1_ts s ts) a := by
  obtain ⟨A1, T1⟩ := own_stT h hn hT
  refine ⟨own_ladd 1 1 rfl hm hq (by omega), A1, own_T_fun T1 (fun j _ => ?_)⟩
  show (if j = ((q + 1) % (n : Int)).toNat then 0 else if j = (q % (n : Int)).toNat then a else 0) = own_f1 q 1 n a j
  unfold own_f1
  rw [if_neg (show ¬ (1 : Int) = 0 by omega)]
  have k1 : (1 : Int) < n := by omega
  simp only [k1, true_and]
theorem own_P1C2 {q : Int} {n : Nat} {m : Int64} {s : Int32} {ts : List Int64} {a : Int64} (hm : m.toInt = q) (h : s.toInt = q % (n : Int)) (hT : own_T ts n (fun j => if j = (q % (n : Int)).toNat then a else 0)) (hn : 1 ≤ n ∧ n ≤ 4) (hk : 2 < n) (hq : -2305843009213693952 ≤ q ∧ q ≤ 2305843009213693951) : own_P1 q 2 n (own_adC2_newestNumber m) (own_adC2_newestSlot s ts) (own_adC2_ts s ts) a := by
  obtain ⟨A1, T1⟩ := own_stT h hn hT
  obtain ⟨A2, T2⟩ := own_stT A1 hn T1
  rw [Int.add_assoc] at A2 T2
  refine ⟨own_ladd 2 2 rfl hm hq (by omega), A2, own_T_fun T2 (fun j _ => ?_)⟩
  show (if j = ((q + 2) % (n : Int)).toNat then 0 else if j = ((q + 1) % (n : Int)).toNat then 0 else if j = (q % (n : Int)).toNat then a else 0) = own_f1 q 2 n a j
  unfold own_f1
  rw [if_neg (show ¬ (2 : Int) = 0 by omega)]
  have k1 : (2 : Int) < n := by omega
  have n1 : ((q + 1) % (n : Int)).toNat ≠ (q % (n : Int)).toNat := by
    have k : n = 3 ∨ n = 4 := by omega
    rcases k with rfl | rfl <;> omega
  simp only [k1, true_and]
  generalize ((q + 1) % (n : Int)).toNat = x1 at *
  generalize (q % (n : Int)).toNat = x0 at *
  by_cases c1 : j = x1
  · rw [if_pos c1, if_neg (show ¬ j = x0 by omega)]
  · rw [if_neg c1]
theorem own_P1C3 {q : Int} {n : Nat} {m : Int64} {s : Int32} {ts : List Int64} {a : Int64} (hm : m.toInt = q) (h : s.toInt = q % (n : Int)) (hT : own_T ts n (fun j => if j = (q % (n : Int)).toNat then a else 0)) (hn : 1 ≤ n ∧ n ≤ 4) (hk : 3 < n) (hq : -2305843009213693952 ≤ q ∧ q ≤ 2305843009213693951) : own_P1 q 3 n (own_adC3_newestNumber m) (own_adC3_newestSlot s ts) (own_adC3_ts s ts) a := by
  obtain ⟨A1, T1⟩ := own_stT h hn hT
  obtain ⟨A2, T2⟩ := own_stT A1 hn T1
  obtain ⟨A3, T3⟩ := own_stT A2 hn T2
  rw [Int.add_assoc, Int.add_assoc] at A3 T3
  rw [Int.add_assoc] at T3
  refine ⟨own_ladd 3 3 rfl hm hq (by omega), A3, own_T_fun T3 (fun j _ => ?_)⟩
  show (if j = ((q + 3) % (n : Int)).toNat then 0 else if j = ((q + 2) % (n : Int)).toNat then 0 else if j = ((q + 1) % (n : Int)).toNat then 0 else if j = (q % (n : Int)).toNat then a else 0) = own_f1 q 3 n a j
  unfold own_f1
  rw [if_neg (show ¬ (3 : Int) = 0 by omega)]
  have k1 : (3 : Int) < n := by omega
  obtain rfl : n = 4 := by omega
  simp only [k1, true_and]
  have n1 : ((q + 1) % ((4 : Nat) : Int)).toNat ≠ (q % ((4 : Nat) : Int)).toNat := by omega
  have n2 : ((q + 2) % ((4 : Nat) : Int)).toNat ≠ (q % ((4 : Nat) : Int)).toNat := by omega
  generalize ((q + 2) % ((4 : Nat) : Int)).toNat = x2 at *
  generalize ((q + 1) % ((4 : Nat) : Int)).toNat = x1 at *
  generalize (q % ((4 : Nat) : Int)).toNat = x0 at *
  by_cases c2 : j = x2
  · rw [if_pos c2, if_neg (show ¬ j = x0 by omega)]
  · rw [if_neg c2]
    by_cases c1 : j = x1
    · rw [if_pos c1, if_neg (show ¬ j = x0 by omega)]
    · rw [if_neg c1]
theorem own_hm1 (t w : Int64) (t1 : Int64) (k : Int) (hw : w.toInt = t.toInt) (h1 : t1.toInt = t.toInt + k) (ht : -2305843009213693952 ≤ t.toInt ∧ t.toInt ≤ 2305843009213693951) (hk : 0 ≤ k ∧ k ≤ 7) : own_cmpU (t1 - w) (1 : Int64) < 0 ↔ k = 0 := by
  have e1 : (1 : Int64).toInt = 1 := rfl
  have a := c_lsub t1 w
  have r := rng64 (t1 - w)
  rw [own_cmpUT _ _ (by decide), e1]
  generalize t1 - w = z at *
  omega
theorem own_pas1 (t t1 w win : Int64) (ts : List Int64) (n : Nat) (k : Int) (hw : w.toInt = t.toInt) (hl : ts.length = n) (hn : 1 ≤ n ∧ n ≤ 4) (hwin : win.toInt = n) (h1 : t1.toInt = t.toInt + k) (ht : -2305843009213693952 ≤ t.toInt ∧ t.toInt ≤ 2305843009213693951) (hk : 0 ≤ k ∧ k ≤ 7) : (own_pas_r t1 (1 : Int64) win w ts).toInt = if k < n then k else n := by
  have e1 : (1 : Int64).toInt = 1 := rfl
  have p := own_pasT t t1 1 w win ts n (by rw [e1, Int.ediv_one, Int.one_mul]; exact hw) hl hn (by decide) (by rw [e1, Int.one_mul]; exact hwin) (by omega) (by omega) (by omega)
  rw [e1, Int.ediv_one, Int.ediv_one, h1, Int.add_comm, Int.add_sub_cancel] at p
  exact p
theorem own_i64 (ts : List Int64) (n : Nat) (hl : ts.length = n) (hn : 1 ≤ n ∧ n ≤ 4) : (Int32.ofNat ts.length).toInt64.toInt = n := by
  rw [c_i2l, hl, own_toI (by omega)]
theorem own_ok1 {q k : Int} {N : Nat} {m t0 t1 x : Int64} {s s2 n : Int32} {ts : List Int64} {a b : Int64} (h : own_P1 q k N m s2 ts a) (hN : (N : Int) = n.toInt) (hn : 1 ≤ N ∧ N ≤ 4) (ht0 : t0.toInt = q) (ht1 : t1.toInt = q + k) (hs : s.toInt = k) (hq : -2305843009213693952 ≤ q ∧ q ≤ 2305843009213693951) (hk : 0 ≤ k ∧ k ≤ 7) :
    own_lea_r x m s2 (own_add_ts b s2 ts) = if t1 < x then (if (t1 + n.toInt64) < x then (0 : Int64) else if x = (t1 + n.toInt64) then (if s = 0 then (b + a) else b) else if x = (t0 + n.toInt64) then a else (0 : Int64)) else (0 : Int64) := by
  obtain ⟨h1, h2, h3⟩ := h
  have hi : s2.toNatClampNeg < N := by rw [own_snat h2]; exact own_nlt _ _ hn.1
  have T := own_addT (v := b) h3 hi
  have L := own_leaT (x := x) (m := m) (k := _) h2 T.1 hn rfl
  rw [L]
  have d := c_lsub m x
  have f := c_ladd (m - x) (Int32.ofNat (own_add_ts b s2 ts).length).toInt64
  rw [own_i64 _ N T.1 hn] at f
  have r1 := rng64 (m - x)
  have r2 := rng64 ((m - x) + (Int32.ofNat (own_add_ts b s2 ts).length).toInt64)
  have r3 := rng64 x
  have a1 := c_ladd t1 n.toInt64
  have a0 := c_ladd t0 n.toInt64
  rw [c_i2l] at a1 a0
  have r4 := rng64 (t1 + n.toInt64)
  have r5 := rng64 (t0 + n.toInt64)
  have e1 : (t1 + n.toInt64).toInt = q + k + N := by
    generalize t1 + n.toInt64 = z at *
    omega
  have e0 : (t0 + n.toInt64).toInt = q + N := by
    generalize t0 + n.toInt64 = z at *
    omega
  clear a1 a0 r4 r5
  have b1 : t1 < x ↔ q + k < x.toInt := by rw [Int64.lt_iff_toInt_lt, ht1]
  have b2 : (t1 + n.toInt64) < x ↔ q + k + N < x.toInt := by rw [Int64.lt_iff_toInt_lt, e1]
  have b3 : x = (t1 + n.toInt64) ↔ x.toInt = q + k + N := by rw [← Int64.toInt_inj, e1]
  have b4 : x = (t0 + n.toInt64) ↔ x.toInt = q + N := by rw [← Int64.toInt_inj, e0]
  have b5 : s = 0 ↔ k = 0 := by
    have e : (0 : Int32).toInt = 0 := rfl
    rw [← Int32.toInt_inj, hs, e]
  generalize ((m - x) + (Int32.ofNat (own_add_ts b s2 ts).length).toInt64).toInt = g at *
  generalize (m - x).toInt = y at *
  by_cases c1 : t1 < x
  · rw [if_pos c1]
    have c1' := b1.mp c1
    by_cases c2 : (t1 + n.toInt64) < x
    · rw [if_pos c2]
      have c2' := b2.mp c2
      rw [if_neg (by omega)]
    · rw [if_neg c2]
      have c2' : ¬ q + k + N < x.toInt := fun z => c2 (b2.mpr z)
      have eg : g = q + k + N - x.toInt := by omega
      clear d f
      rw [if_pos (by omega), T.2 _ (own_nlt _ _ hn.1)]
      show (if ((q + k - g) % (N : Int)).toNat = s2.toNatClampNeg then own_f1 q k N a s2.toNatClampNeg + b else own_f1 q k N a ((q + k - g) % (N : Int)).toNat) = _
      rw [own_snat h2]
      by_cases c3 : x = (t1 + n.toInt64)
      · have c3' := b3.mp c3
        rw [if_pos c3]
        have g0 : g = 0 := by omega
        rw [g0, Int.sub_zero, if_pos rfl]
        unfold own_f1
        rw [if_pos rfl]
        by_cases c5 : k = 0
        · rw [if_pos c5, if_pos (b5.mpr c5), Int64.add_comm]
        · rw [if_neg c5, if_neg (fun z => c5 (b5.mp z)), Int64.zero_add]
      · rw [if_neg c3]
        have c3' : ¬ x.toInt = q + k + N := fun z => c3 (b3.mpr z)
        have g1 : 0 < g ∧ g < N := by omega
        have ne : ¬ ((q + k - g) % (N : Int)).toNat = ((q + k) % (N : Int)).toNat := by
          clear L T h1 h2 h3 hi b1 b2 b3 b4 b5 eg c1' c2' c3' r1 r2 r3 e1 e0
          have kk : N = 1 ∨ N = 2 ∨ N = 3 ∨ N = 4 := by omega
          rcases kk with rfl | rfl | rfl | rfl <;> omega
        rw [if_neg ne]
        unfold own_f1
        rw [if_neg ne]
        by_cases c4 : x = (t0 + n.toInt64)
        · have c4' := b4.mp c4
          have gk : g = k := by omega
          rw [if_pos c4, gk, Int.add_sub_cancel, if_pos ⟨by omega, rfl⟩]
        · have c4' : ¬ x.toInt = q + N := fun z => c4 (b4.mpr z)
          have gk : ¬ g = k := by omega
          rw [if_neg c4, if_neg]
          intro hh
          obtain ⟨h5, h6⟩ := hh
          clear L T h1 h2 h3 hi b1 b2 b3 b4 b5 eg c1' c2' c3' c4' r1 r2 r3 e1 e0 ne
          have kk : N = 1 ∨ N = 2 ∨ N = 3 ∨ N = 4 := by omega
          rcases kk with rfl | rfl | rfl | rfl <;> omega
  · rw [if_neg c1]
    have c1' : ¬ q + k < x.toInt := fun z => c1 (b1.mpr z)
    rw [if_neg (by omega)]
theorem own_k3 {k : Int} {N : Nat} (h0 : ¬ k = 0) (hS : 0 ≤ k ∧ k ≤ 7) (hN : ¬ (N : Int) ≤ k) (hN4 : 1 ≤ N ∧ N ≤ 4) : (k = 1 ∧ 1 < N) ∨ (k = 2 ∧ 2 < N) ∨ (k = 3 ∧ 3 < N) := by omega
theorem own_pC {x y : Int64} {k : Int} {n : Nat} (c : Int) (h : x.toInt = if k < (n : Int) then k else (n : Int)) (hk : k = c) (hn : ¬ (n : Int) ≤ k) (hc : y.toInt = c) : x = y := by
  apply Int64.toInt_inj.mp
  rw [h, if_pos (Int.not_le.mp hn), hk, hc]
theorem own_nC {z y : Int64} {n : Nat} (c : Nat) (h : z.toInt = (n : Int)) (hk : c < n) (hc : y.toInt = (c : Int)) : ¬ y = z := by
  intro e
  rw [← e, hc] at h
  omega
theorem own_pB {x z : Int64} {k : Int} {n : Nat} (h : x.toInt = if k < (n : Int) then k else (n : Int)) (hn : (n : Int) ≤ k) (hz : z.toInt = (n : Int)) : x = z := by
  apply Int64.toInt_inj.mp
  rw [h, if_neg (Int.not_lt.mpr hn), hz]

def Q0 (n0 : Nat) (v : Option Value) (h : Heap) (L : List Loc) : Prop := v = some (.int (1 : Int32)) ∧ Fr n0 L
theorem own_pn6 : plainName "com/example/eschborn/eschborn/engine/BucketWindowLeavingAtPinLaw" = true := by first | (simp [plainName, overriddenIn]; done) | decide +kernel
theorem own_eq0   : (0 : Int64) < (1 : Int64) := by
  decide
theorem own_eq1 (p3 : Int32)  : (0 : Int64) < ((((p3 &&& (3 : Int32)) + (1 : Int32))).toInt64) := by
  exact own_pos (by rw [c_i2l]; exact (own_n8 p3).1)
theorem own_eq2 (p3 : Int32)  : (((((p3 &&& (3 : Int32)) + (1 : Int32))).toInt64) % (1 : Int64)) = (0 : Int64) := by
  have q := own_modT 1 _ (by decide) (own_n8 p3)
  rw [Int64.one_mul] at q
  exact q
theorem own_eq3 (p3 : Int32)  : ¬ (1000000 : Int64) < (((((p3 &&& (3 : Int32)) + (1 : Int32))).toInt64) / (1 : Int64)) := by
  have q := own_q4 1 _ (by decide) (own_n8 p3)
  rw [Int64.one_mul] at q
  exact q
theorem own_eq4   : ¬ (1 : Int64) < (1 : Int64) := by
  decide
theorem own_eq5   : ¬ (0 : Int64) < (0 : Int64) := by
  decide
theorem own_eq6 (p3 : Int32)  : ¬ ((((9223372036854775807 : Int64) - (0 : Int64)) - (0 : Int64)) / (2 : Int64)) < ((((p3 &&& (3 : Int32)) + (1 : Int32))).toInt64) := by
  have q := own_q10 1 _ (by decide) (own_n8 p3)
  rw [Int64.one_mul] at q
  exact q
theorem own_eq7   : (1 : Int64) ≠ 0 := by
  decide
theorem own_pd10 : parseMethodDescriptor "(JJJJJJ)V" = some ⟨[.long, .long, .long, .long, .long, .long], none⟩ := by decide +kernel
theorem own_eq8 (p3 : Int32)  : own_lrn_r ((((p3 &&& (3 : Int32)) + (1 : Int32))).toInt64) (1 : Int64) = Int32.ofNat (((p3 &&& (3 : Int32)) + (1 : Int32))).toNatClampNeg := by
  have q := own_lrT 1 _ (by decide) (own_n8 p3)
  rw [Int64.one_mul] at q
  exact q
theorem own_eq9 (p3 : Int32)  : (((p3 &&& (3 : Int32)) + (1 : Int32))).toNatClampNeg ≤ 8 := by
  have h := own_n1 p3
  rw [Int32.toNatClampNeg]
  omega
theorem own_pd11 : parseMethodDescriptor "(Lcom/example/eschborn/eschborn/engine/LoadRule;)V" = some ⟨[(.object "com/example/eschborn/eschborn/engine/LoadRule")], none⟩ := by decide +kernel
theorem own_eq10 (p1 : Int64)  : ¬ ((p1 >>> ((2 : Int32) &&& 0x3f).toInt64)) < ((-9223372036854775808 : Int64) + (own_fm ((p1 >>> ((2 : Int32) &&& 0x3f).toInt64)) (1 : Int64))) := by
  exact own_tm _ _ (by decide) (by have := own_t1 p1; omega)
theorem own_eq11 (p3 : Int32)  : (Int32.ofNat ((own_bwi_totals ((((p3 &&& (3 : Int32)) + (1 : Int32))).toNatClampNeg))).length).toInt64 ≠ 0 := by
  exact own_tnz _ (own_n8 p3)
set_option maxRecDepth 65536 in
set_option maxHeartbeats 40000000 in
theorem rm0 (l : Launch) (Z : State) (a0 : Array Value) (hw : ∀ d ∈ tables_1, d.before a0 Z = true) (ws : List Jvm.Cond) (p1 : Int64) (p2 : Int32) (p3 : Int32) (p4 : Int64) (p5 : Int64) (p6 : Int64) (h0 : Heap) (n0 : Nat) (Z0 : n0 ≤ h0.size)  :
    MetFree l x (head1 (Jvm.Cond.code x code maxLocals ret :: ws) room_1) (fun aa U => aa = #[(.long p1), (.int p2), (.int p3), (.long p4), (.long p5), (.long p6)] ∧ Z.Warmed39 U.vm ∧ U.heap = h0) (fun _ _ _ _ _ => True) (fun _ U o U' => ∃ v L, o = .returned v ∧ Q0 n0 v U'.heap L ∧ FrameEnd U o U' L room_1.cells room_1.slots) := by
  refine MetFree.of_bodySF (plainFor_of_name own_pn6) hisR ?_
  intro p e s m args below meth c s₁ Bd hml0 hP hK
  obtain ⟨rfl, hZ, hh⟩ := hP
  have hx := Bd.exec
  have hby := Bd.bytes
  have hml : c.maxLocals = 23 := hml0
  have hlk : meth.locks = false := BodyLoose.notSynchronized Bd
  have hown : s.vm.findClass "com/example/eschborn/eschborn/engine/BucketWindowLeavingAtPinLaw" = some m.cls := findClass_of_methodNamed Bd.named
  have hnm := (name_of_methodNamed Bd.named Bd.method).1
  have X0 : Stand p l e room_1 s m #[(.long p1), (.int p2), (.int p3), (.long p4), (.long p5), (.long p6)] below meth c s₁ [] 0 0 := Stand.of_body Bd
  have e0 : s₁.heap = h0 := by rw [← hh, Bd.state]; rfl
  have N0 := Fr.nil n0
  show own_Go p e below s (Q0 n0) room_1.cells room_1.slots (s₁.setTop (entryFrame m #[(.long p1), (.int p2), (.int p3), (.long p4), (.long p5), (.long p6)] maxLocals))
  refine own_go (B := s₁.setTop (mkF m 0 #[.val (.long p1), .second, .val (.int p2), .val (.int p3), .val (.long p4), .second, .val (.long p5), .second, .val (.long p6), .second, .unset, .unset, .unset, .unset, .unset, .unset, .unset, .unset, .unset, .unset, .unset, .unset, .unset] [])) (fun tgt cont => (XT.entry rfl).trans cont) ?_
  refine own_go (B := s₁.setTop (mkF m 5 #[.val (.long p1), .second, .val (.int p2), .val (.int p3), .val (.long p4), .second, .val (.long p5), .second, .val (.long p6), .second, .unset, .unset, .unset, .unset, .unset, .unset, .unset, .unset, .unset, .unset, .unset, .unset, .unset] [(.int ((p3 &&& (3 : Int32)) + (1 : Int32)))])) (fun tgt cont => ?_) ?_
  · refine XS.iloadN X0.here hx rfl (hb hby at_0) rfl ?_
    refine XT.iconstV X0.here hx rfl (3 : Int32) (hb hby at_1) rfl ?_
    refine XS.iand X0.here hx rfl (hb hby at_2) rfl ?_
    refine XT.iconstV X0.here hx rfl (1 : Int32) (hb hby at_3) rfl ?_
    refine XS.iadd X0.here hx rfl (hb hby at_4) rfl ?_
    exact cont
  generalize hv1 : ((p3 &&& (3 : Int32)) + (1 : Int32)) = v1
  refine own_go (B := s₁.setTop (mkF m 11 #[.val (.long p1), .second, .val (.int p2), .val (.int p3), .val (.long p4), .second, .val (.long p5), .second, .val (.long p6), .second, .val (.int v1), .unset, .unset, .unset, .unset, .unset, .unset, .unset, .unset, .unset, .unset, .unset, .unset] [(.int (p2 &&& (7 : Int32)))])) (fun tgt cont => ?_) ?_
  · refine XS.istore X0.here hx rfl (hb hby at_5) rfl (l' := #[.val (.long p1), .second, .val (.int p2), .val (.int p3), .val (.long p4), .second, .val (.long p5), .second, .val (.long p6), .second, .val (.int v1), .unset, .unset, .unset, .unset, .unset, .unset, .unset, .unset, .unset, .unset, .unset, .unset]) rfl ?_
    refine XS.iloadN X0.here hx rfl (hb hby at_7) rfl ?_
    refine XT.bipushV X0.here hx rfl (7 : Int32) (hb hby at_8) rfl ?_
    refine XS.iand X0.here hx rfl (hb hby at_10) rfl ?_
    exact cont
  generalize hv2 : (p2 &&& (7 : Int32)) = v2
  refine own_go (B := s₁.setTop (mkF m 16 #[.val (.long p1), .second, .val (.int p2), .val (.int p3), .val (.long p4), .second, .val (.long p5), .second, .val (.long p6), .second, .val (.int v1), .val (.int v2), .unset, .unset, .unset, .unset, .unset, .unset, .unset, .unset, .unset, .unset, .unset] [(.long (p1 >>> ((2 : Int32) &&& 0x3f).toInt64))])) (fun tgt cont => ?_) ?_
  · refine XS.istore X0.here hx rfl (hb hby at_11) rfl (l' := #[.val (.long p1), .second, .val (.int p2), .val (.int p3), .val (.long p4), .second, .val (.long p5), .second, .val (.long p6), .second, .val (.int v1), .val (.int v2), .unset, .unset, .unset, .unset, .unset, .unset, .unset, .unset, .unset, .unset, .unset]) rfl ?_
    refine XS.lloadN X0.here hx rfl (hb hby at_13) rfl ?_
    refine XT.iconstV X0.here hx rfl (2 : Int32) (hb hby at_14) rfl ?_
    refine XS.lshr X0.here hx rfl (hb hby at_15) rfl ?_
    exact cont
  generalize hv3 : (p1 >>> ((2 : Int32) &&& 0x3f).toInt64) = v3
  refine own_go (B := s₁.setTop (mkF m 24 #[.val (.long p1), .second, .val (.int p2), .val (.int p3), .val (.long p4), .second, .val (.long p5), .second, .val (.long p6), .second, .val (.int v1), .val (.int v2), .val (.long v3), .second, .unset, .unset, .unset, .unset, .unset, .unset, .unset, .unset, .unset] [(.long (v3 + (v2.toInt64)))])) (fun tgt cont => ?_) ?_
  · refine XS.lstore X0.here hx rfl (hb hby at_16) rfl (l' := #[.val (.long p1), .second, .val (.int p2), .val (.int p3), .val (.long p4), .second, .val (.long p5), .second, .val (.long p6), .second, .val (.int v1), .val (.int v2), .val (.long v3), .second, .unset, .unset, .unset, .unset, .unset, .unset, .unset, .unset, .unset]) rfl ?_
    refine XS.lload X0.here hx rfl (hb hby at_18) rfl ?_
    refine XS.iload X0.here hx rfl (hb hby at_20) rfl ?_
    refine XS.i2l X0.here hx rfl (hb hby at_22) rfl ?_
    refine XS.ladd X0.here hx rfl (hb hby at_23) rfl ?_
    exact cont
  generalize hv4 : (v3 + (v2.toInt64)) = v4
  refine own_go (B := s₁.setTop (mkF m 31 #[.val (.long p1), .second, .val (.int p2), .val (.int p3), .val (.long p4), .second, .val (.long p5), .second, .val (.long p6), .second, .val (.int v1), .val (.int v2), .val (.long v3), .second, .val (.long v4), .second, .unset, .unset, .unset, .unset, .unset, .unset, .unset] [(.int ((p2 >>> ((3 : Int32) &&& 31)) &&& (1 : Int32)))])) (fun tgt cont => ?_) ?_
  · refine XS.lstore X0.here hx rfl (hb hby at_24) rfl (l' := #[.val (.long p1), .second, .val (.int p2), .val (.int p3), .val (.long p4), .second, .val (.long p5), .second, .val (.long p6), .second, .val (.int v1), .val (.int v2), .val (.long v3), .second, .val (.long v4), .second, .unset, .unset, .unset, .unset, .unset, .unset, .unset]) rfl ?_
    refine XS.iloadN X0.here hx rfl (hb hby at_26) rfl ?_
    refine XT.iconstV X0.here hx rfl (3 : Int32) (hb hby at_27) rfl ?_
    refine XS.ishr X0.here hx rfl (hb hby at_28) rfl ?_
    refine XT.iconstV X0.here hx rfl (1 : Int32) (hb hby at_29) rfl ?_
    refine XS.iand X0.here hx rfl (hb hby at_30) rfl ?_
    exact cont
  have K5 : ∀ (v6 : Int64) (hv6 : v6 = (if ((p2 >>> ((3 : Int32) &&& 31)) &&& (1 : Int32)) = 0 then (v4 + ((p6 &&& (15 : Int64)) - (4 : Int64))) else p6)), own_Go p e below s (Q0 n0) room_1.cells room_1.slots (s₁.setTop (mkF m 52 #[.val (.long p1), .second, .val (.int p2), .val (.int p3), .val (.long p4), .second, .val (.long p5), .second, .val (.long p6), .second, .val (.int v1), .val (.int v2), .val (.long v3), .second, .val (.long v4), .second, .unset, .unset, .unset, .unset, .unset, .unset, .unset] [(.long v6)])) := by
    intro v6 hv6
    refine own_go (B := s₁.setTop (mkF m 54 #[.val (.long p1), .second, .val (.int p2), .val (.int p3), .val (.long p4), .second, .val (.long p5), .second, .val (.long p6), .second, .val (.int v1), .val (.int v2), .val (.long v3), .second, .val (.long v4), .second, .val (.long v6), .second, .unset, .unset, .unset, .unset, .unset] [])) (fun tgt cont => ?_) ?_
    · refine XS.lstore X0.here hx rfl (hb hby at_52) rfl (l' := #[.val (.long p1), .second, .val (.int p2), .val (.int p3), .val (.long p4), .second, .val (.long p5), .second, .val (.long p6), .second, .val (.int v1), .val (.int v2), .val (.long v3), .second, .val (.long v4), .second, .val (.long v6), .second, .unset, .unset, .unset, .unset, .unset]) rfl ?_
      exact cont
    obtain ⟨T7, h7, X7, e7, E7, A7, D7, -, st7⟩ := newO X0 hx hZ hown (hw _ (List.mem_of_getElem? (i := 2) rfl)) (hw _ (List.mem_of_getElem? (i := 3) rfl)) (hw _ (List.mem_of_getElem? (i := 4) rfl)) e0 (g := (mkF m 54 #[.val (.long p1), .second, .val (.int p2), .val (.int p3), .val (.long p4), .second, .val (.long p5), .second, .val (.long p6), .second, .val (.int v1), .val (.int v2), .val (.long v3), .second, .val (.long v4), .second, .val (.long v6), .second, .unset, .unset, .unset, .unset, .unset] [])) rfl (hb hby at_54) (by decide) (by decide)
    obtain ⟨b7, g7⟩ : ∃ z, z = h0.size := ⟨_, rfl⟩
    rw [← g7] at A7 D7 st7
    have g_b7 : n0 ≤ b7 := Nat.le_trans Z0 (Nat.le_of_eq g7.symm)
    have sz_b7 : h0.size ≤ b7 := Nat.le_trans (Keep.refl h0 []).1 (Nat.le_of_eq g7.symm)
    have kk7 : Keep h0 h7 [] := (Keep.refl h0 []).ext E7
    have zp7 : n0 ≤ h7.size := Nat.le_trans Z0 kk7.1
    have F_bucket_b7 : Fld Z h7 b7 "com/example/eschborn/eschborn/engine/BucketWindow" "bucket" "J" (.long (0 : Int64)) := D7 (Or.inr (hw _ (List.mem_of_getElem? (i := 44) rfl))) (ty := .long) (by decide)
    have F_window_b7 : Fld Z h7 b7 "com/example/eschborn/eschborn/engine/BucketWindow" "window" "J" (.long (0 : Int64)) := D7 (Or.inr (hw _ (List.mem_of_getElem? (i := 51) rfl))) (ty := .long) (by decide)
    have F_totals_b7 : Fld Z h7 b7 "com/example/eschborn/eschborn/engine/BucketWindow" "totals" "[J" .null := D7 (Or.inr (hw _ (List.mem_of_getElem? (i := 59) rfl))) (ty := (.array .long)) (by decide)
    have F_newest_b7 : Fld Z h7 b7 "com/example/eschborn/eschborn/engine/BucketWindow" "newest" "J" (.long (0 : Int64)) := D7 (Or.inl (hw _ (List.mem_of_getElem? (i := 66) rfl))) (ty := .long) (by decide)
    have F_newestSlot_b7 : Fld Z h7 b7 "com/example/eschborn/eschborn/engine/BucketWindow" "newestSlot" "I" (.int (0 : Int32)) := D7 (Or.inl (hw _ (List.mem_of_getElem? (i := 81) rfl))) (ty := .int) (by decide)
    have F_load_b7 : Fld Z h7 b7 "com/example/eschborn/eschborn/engine/BucketWindow" "load" "J" (.long (0 : Int64)) := D7 (Or.inl (hw _ (List.mem_of_getElem? (i := 83) rfl))) (ty := .long) (by decide)
    have F_newestNumber_b7 : Fld Z h7 b7 "com/example/eschborn/eschborn/engine/BucketWindow" "newestNumber" "J" (.long (0 : Int64)) := D7 (Or.inl (hw _ (List.mem_of_getElem? (i := 113) rfl))) (ty := .long) (by decide)
    refine own_go (fun tgt cont => st7 tgt cont) ?_
    show own_Go p e below s (Q0 n0) room_1.cells room_1.slots (T7.setTop (mkF m 57 #[.val (.long p1), .second, .val (.int p2), .val (.int p3), .val (.long p4), .second, .val (.long p5), .second, .val (.long p6), .second, .val (.int v1), .val (.int v2), .val (.long v3), .second, .val (.long v4), .second, .val (.long v6), .second, .unset, .unset, .unset, .unset, .unset] [(.ref b7)]))
    refine own_go (B := T7.setTop (mkF m 58 #[.val (.long p1), .second, .val (.int p2), .val (.int p3), .val (.long p4), .second, .val (.long p5), .second, .val (.long p6), .second, .val (.int v1), .val (.int v2), .val (.long v3), .second, .val (.long v4), .second, .val (.long v6), .second, .unset, .unset, .unset, .unset, .unset] [(.ref b7), (.ref b7)])) (fun tgt cont => ?_) ?_
    · refine XS.dup X7.here hx rfl (hb hby at_57) rfl rfl ?_
      exact cont
    obtain ⟨T8, h8, X8, e8, E8, A8, D8, -, st8⟩ := newO X7 hx hZ hown (hw _ (List.mem_of_getElem? (i := 5) rfl)) (hw _ (List.mem_of_getElem? (i := 6) rfl)) (hw _ (List.mem_of_getElem? (i := 7) rfl)) e7 (g := (mkF m 58 #[.val (.long p1), .second, .val (.int p2), .val (.int p3), .val (.long p4), .second, .val (.long p5), .second, .val (.long p6), .second, .val (.int v1), .val (.int v2), .val (.long v3), .second, .val (.long v4), .second, .val (.long v6), .second, .unset, .unset, .unset, .unset, .unset] [(.ref b7), (.ref b7)])) rfl (hb hby at_58) (by decide) (by decide)
    obtain ⟨b8, g8⟩ : ∃ z, z = h7.size := ⟨_, rfl⟩
    rw [← g8] at A8 D8 st8
    have g_b8 : n0 ≤ b8 := Nat.le_trans zp7 (Nat.le_of_eq g8.symm)
    have sz_b8 : h0.size ≤ b8 := Nat.le_trans kk7.1 (Nat.le_of_eq g8.symm)
    have ne_b7_b8 : b7 ≠ b8 := Nat.ne_of_lt (by rw [g8]; exact A7.lt)
    have kk8 : Keep h0 h8 [] := kk7.ext E8
    have zp8 : n0 ≤ h8.size := Nat.le_trans Z0 kk8.1
    have F_window_b8 : Fld Z h8 b8 "com/example/eschborn/eschborn/engine/LoadRule" "window" "J" (.long (0 : Int64)) := D8 (Or.inr (hw _ (List.mem_of_getElem? (i := 23) rfl))) (ty := .long) (by decide)
    have F_bucket_b8 : Fld Z h8 b8 "com/example/eschborn/eschborn/engine/LoadRule" "bucket" "J" (.long (0 : Int64)) := D8 (Or.inr (hw _ (List.mem_of_getElem? (i := 25) rfl))) (ty := .long) (by decide)
    have F_l1_b8 : Fld Z h8 b8 "com/example/eschborn/eschborn/engine/LoadRule" "l1" "J" (.long (0 : Int64)) := D8 (Or.inr (hw _ (List.mem_of_getElem? (i := 27) rfl))) (ty := .long) (by decide)
    have F_l2_b8 : Fld Z h8 b8 "com/example/eschborn/eschborn/engine/LoadRule" "l2" "J" (.long (0 : Int64)) := D8 (Or.inr (hw _ (List.mem_of_getElem? (i := 29) rfl))) (ty := .long) (by decide)
    have F_tolerance_b8 : Fld Z h8 b8 "com/example/eschborn/eschborn/engine/LoadRule" "tolerance" "J" (.long (0 : Int64)) := D8 (Or.inr (hw _ (List.mem_of_getElem? (i := 31) rfl))) (ty := .long) (by decide)
    have F_cooldown_b8 : Fld Z h8 b8 "com/example/eschborn/eschborn/engine/LoadRule" "cooldown" "J" (.long (0 : Int64)) := D8 (Or.inr (hw _ (List.mem_of_getElem? (i := 33) rfl))) (ty := .long) (by decide)
    refine own_go (fun tgt cont => st8 tgt cont) ?_
    show own_Go p e below s (Q0 n0) room_1.cells room_1.slots (T8.setTop (mkF m 61 #[.val (.long p1), .second, .val (.int p2), .val (.int p3), .val (.long p4), .second, .val (.long p5), .second, .val (.long p6), .second, .val (.int v1), .val (.int v2), .val (.long v3), .second, .val (.long v4), .second, .val (.long v6), .second, .unset, .unset, .unset, .unset, .unset] [(.ref b8), (.ref b7), (.ref b7)]))
    refine own_go (B := T8.setTop (mkF m 70 #[.val (.long p1), .second, .val (.int p2), .val (.int p3), .val (.long p4), .second, .val (.long p5), .second, .val (.long p6), .second, .val (.int v1), .val (.int v2), .val (.long v3), .second, .val (.long v4), .second, .val (.long v6), .second, .unset, .unset, .unset, .unset, .unset] [(.long (0 : Int64)), (.long (0 : Int64)), (.long (1 : Int64)), (.long (1 : Int64)), (.long (1 : Int64)), (.long (v1.toInt64)), (.ref b8), (.ref b8), (.ref b7), (.ref b7)])) (fun tgt cont => ?_) ?_
    · refine XS.dup X8.here hx rfl (hb hby at_61) rfl rfl ?_
      refine XS.iload X8.here hx rfl (hb hby at_62) rfl ?_
      refine XS.i2l X8.here hx rfl (hb hby at_64) rfl ?_
      refine XT.lconstV X8.here hx rfl (1 : Int64) (hb hby at_65) rfl ?_
      refine XT.lconstV X8.here hx rfl (1 : Int64) (hb hby at_66) rfl ?_
      refine XT.lconstV X8.here hx rfl (1 : Int64) (hb hby at_67) rfl ?_
      refine XT.lconstV X8.here hx rfl (0 : Int64) (hb hby at_68) rfl ?_
      refine XT.lconstV X8.here hx rfl (0 : Int64) (hb hby at_69) rfl ?_
      exact cont
    -- pc 70: LoadRule.<init>
    obtain ⟨_, _, ⟨T9, L9, k9, n9⟩, -, X9, ⟨Lc9, hQ9, l9, y9, z9⟩, st9⟩ := X8.specialBack hx (y := (⟨"com/example/eschborn/eschborn/engine/LoadRule", "<init>", "(JJJJJJ)V"⟩ : MethodName)) rfl hown (mvT hZ (hw _ (List.mem_of_getElem? (i := 8) rfl))) (mvT hZ (hw _ (List.mem_of_getElem? (i := 9) rfl))) (mvT hZ (hw _ (List.mem_of_getElem? (i := 10) rfl))) (by decide) (backOf (W := 3) (rm1 l Z a0 hw [] b8 (v1.toInt64) (1 : Int64) (1 : Int64) (1 : Int64) (0 : Int64) (0 : Int64) (0 : Int64) (0 : Int64) (0 : Int64) (0 : Int64) (0 : Int64) (0 : Int64) h8 n0 zp8 A8 F_window_b8 F_bucket_b8 F_l1_b8 F_l2_b8 F_tolerance_b8 F_cooldown_b8 g_b8 (own_eq0  ) (by subst hv1; exact own_eq1 p3 ) (by subst hv1; exact own_eq2 p3 ) (by subst hv1; exact own_eq3 p3 ) (own_eq4  ) (own_eq4  ) (own_eq4  ) (own_eq5  ) (own_eq5  ) (by subst hv1; exact own_eq6 p3 ) (own_eq7  )) hZ (hw _ (List.mem_of_getElem? (i := 10) rfl)) (hw _ (List.mem_of_getElem? (i := 7) rfl)) (by decide) (by decide)) (g := (mkF m 70 #[.val (.long p1), .second, .val (.int p2), .val (.int p3), .val (.long p4), .second, .val (.long p5), .second, .val (.long p6), .second, .val (.int v1), .val (.int v2), .val (.long v3), .second, .val (.long v4), .second, .val (.long v6), .second, .unset, .unset, .unset, .unset, .unset] [(.long (0 : Int64)), (.long (0 : Int64)), (.long (1 : Int64)), (.long (1 : Int64)), (.long (1 : Int64)), (.long (v1.toInt64)), (.ref b8), (.ref b8), (.ref b7), (.ref b7)])) rfl (by rw [hml]; rfl) (Steps.refl _) (a := b8) (argsL := [(.long (v1.toInt64)), (.long (1 : Int64)), (.long (1 : Int64)), (.long (1 : Int64)), (.long (0 : Int64)), (.long (0 : Int64))]) (rest := [(.ref b8), (.ref b7), (.ref b7)]) (lenOf own_pd10 rfl) rfl (by show 2 * 0 + _ ≤ _; exact Nat.le_of_eq rfl) (hb hby at_70) (fun _ _ => ⟨rfl, e8, (by decide : 0 + 1 + 1 + 0 ≤ _), (by decide : 0 + 7 + 6 + 0 ≤ _)⟩)
    dsimp only [Pt.U, Pt.locs, Pt.cells, Pt.slots] at X9 l9 y9 z9 st9 hQ9
    subst l9 y9 z9
    obtain ⟨rfl, N9q, K9, ex9_0, fa9_0, fa9_1, fa9_2, fa9_3, fa9_4, fa9_5⟩ := hQ9
    have N9 := Fr.app N0 N9q
    have kk9 : Keep h0 T9.heap [] := kk8.trans K9 (allS (Or.inr sz_b8) all0)
    have zp9 : n0 ≤ T9.heap.size := Nat.le_trans Z0 kk9.1
    refine own_go (fun tgt cont => st9.trans cont) ?_
    show own_Go p e below s (Q0 n0) room_1.cells room_1.slots (T9.setTop (mkF m 73 #[.val (.long p1), .second, .val (.int p2), .val (.int p3), .val (.long p4), .second, .val (.long p5), .second, .val (.long p6), .second, .val (.int v1), .val (.int v2), .val (.long v3), .second, .val (.long v4), .second, .val (.long v6), .second, .unset, .unset, .unset, .unset, .unset] [(.ref b8), (.ref b7), (.ref b7)]))
    -- pc 73: BucketWindow.<init>
    have f11 := ((A7.ext E8).keep K9)
    have f12 := ((F_bucket_b7.ext E8).keep K9 (ninS ne_b7_b8 nin0))
    have f13 := ((F_window_b7.ext E8).keep K9 (ninS ne_b7_b8 nin0))
    have f14 := ((F_totals_b7.ext E8).keep K9 (ninS ne_b7_b8 nin0))
    have f15 := ((F_newest_b7.ext E8).keep K9 (ninS ne_b7_b8 nin0))
    have f16 := ((F_newestNumber_b7.ext E8).keep K9 (ninS ne_b7_b8 nin0))
    have f17 := ((F_newestSlot_b7.ext E8).keep K9 (ninS ne_b7_b8 nin0))
    have f18 := ((F_load_b7.ext E8).keep K9 (ninS ne_b7_b8 nin0))
    obtain ⟨_, _, ⟨T10, L10, k10, n10⟩, -, X10, ⟨Lc10, hQ10, l10, y10, z10⟩, st10⟩ := X9.specialBack hx (y := (⟨"com/example/eschborn/eschborn/engine/BucketWindow", "<init>", "(Lcom/example/eschborn/eschborn/engine/LoadRule;)V"⟩ : MethodName)) rfl hown (mvT hZ (hw _ (List.mem_of_getElem? (i := 34) rfl))) (mvT hZ (hw _ (List.mem_of_getElem? (i := 35) rfl))) (mvT hZ (hw _ (List.mem_of_getElem? (i := 36) rfl))) (by decide) (backOf (W := 1) (rm4 l Z a0 hw [] b7 b8 (v1.toInt64) (1 : Int64) (v1.toNatClampNeg) T9.heap n0 zp9 f11 f12 f13 f14 f15 f16 f17 f18 g_b7 ex9_0 fa9_0 fa9_1 (own_eq7  ) (by subst hv1; exact own_eq8 p3 ) (by subst hv1; exact own_eq9 p3 )) hZ (hw _ (List.mem_of_getElem? (i := 36) rfl)) (hw _ (List.mem_of_getElem? (i := 4) rfl)) (by decide) (by decide)) (g := (mkF m 73 #[.val (.long p1), .second, .val (.int p2), .val (.int p3), .val (.long p4), .second, .val (.long p5), .second, .val (.long p6), .second, .val (.int v1), .val (.int v2), .val (.long v3), .second, .val (.long v4), .second, .val (.long v6), .second, .unset, .unset, .unset, .unset, .unset] [(.ref b8), (.ref b7), (.ref b7)])) rfl (by rw [hml]; rfl) (Steps.refl _) (a := b7) (argsL := [(.ref b8)]) (rest := [(.ref b7)]) (lenOf own_pd11 rfl) rfl (by show 2 * 0 + _ ≤ _; exact Nat.le_of_eq rfl) (hb hby at_73) (fun _ _ => ⟨rfl, rfl, (by decide : 0 + 1 + 1 + 0 + 1 ≤ _), (by decide : 0 + 7 + 6 + 0 + 8 ≤ _)⟩)
    dsimp only [Pt.U, Pt.locs, Pt.cells, Pt.slots] at X10 l10 y10 z10 st10 hQ10
    subst l10 y10 z10
    obtain ⟨b10_0, rfl, N10q, K10, ex10_0, fa10_0, fa10_1, fa10_2, fa10_3, fa10_4, fa10_5, fa10_6, gb10_0, ab10_0, eb10_0⟩ := hQ10
    have N10 := Fr.app N9 N10q
    have g_b10_0 : n0 ≤ b10_0 := Nat.le_trans zp9 gb10_0
    have sz_b10_0 : h0.size ≤ b10_0 := Nat.le_trans kk9.1 gb10_0
    have ne_b7_b10_0 : b7 ≠ b10_0 := Nat.ne_of_lt (Nat.lt_of_lt_of_le f11.lt gb10_0)
    have ne_b8_b10_0 : b8 ≠ b10_0 := Nat.ne_of_lt (Nat.lt_of_lt_of_le ex9_0.lt gb10_0)
    have kk10 : Keep h0 T10.heap [] := kk9.trans K10 (allS (Or.inr sz_b7) all0)
    have zp10 : n0 ≤ T10.heap.size := Nat.le_trans Z0 kk10.1
    generalize hw19 : (own_bwi_totals (v1.toNatClampNeg)) = w19 at ab10_0
    refine own_go (fun tgt cont => st10.trans cont) ?_
    show own_Go p e below s (Q0 n0) room_1.cells room_1.slots (T10.setTop (mkF m 76 #[.val (.long p1), .second, .val (.int p2), .val (.int p3), .val (.long p4), .second, .val (.long p5), .second, .val (.long p6), .second, .val (.int v1), .val (.int v2), .val (.long v3), .second, .val (.long v4), .second, .val (.long v6), .second, .unset, .unset, .unset, .unset, .unset] [(.ref b7)]))
    refine own_go (B := T10.setTop (mkF m 82 #[.val (.long p1), .second, .val (.int p2), .val (.int p3), .val (.long p4), .second, .val (.long p5), .second, .val (.long p6), .second, .val (.int v1), .val (.int v2), .val (.long v3), .second, .val (.long v4), .second, .val (.long v6), .second, .val (.ref b7), .unset, .unset, .unset, .unset] [(.long v3), (.ref b7)])) (fun tgt cont => ?_) ?_
    · refine XS.astore X10.here hx rfl (hb hby at_76) rfl rfl (l' := #[.val (.long p1), .second, .val (.int p2), .val (.int p3), .val (.long p4), .second, .val (.long p5), .second, .val (.long p6), .second, .val (.int v1), .val (.int v2), .val (.long v3), .second, .val (.long v4), .second, .val (.long v6), .second, .val (.ref b7), .unset, .unset, .unset, .unset]) rfl ?_
      refine XS.aload X10.here hx rfl (hb hby at_78) rfl rfl ?_
      refine XS.lload X10.here hx rfl (hb hby at_80) rfl ?_
      exact cont
    -- pc 82: BucketWindow.advance
    obtain ⟨cq20, kq20, qa20, qb20, qc20⟩ := isOf hZ rfl ex10_0
    obtain ⟨_, _, ⟨T20, L20, k20, n20⟩, -, X20, ⟨Lc20, hQ20, l20, y20, z20⟩, st20⟩ := X10.virtualBack hx (y := (⟨"com/example/eschborn/eschborn/engine/BucketWindow", "advance", "(J)V"⟩ : MethodName)) (z := (⟨"com/example/eschborn/eschborn/engine/BucketWindow", "advance", "(J)V"⟩ : MethodName)) hown (mvT hZ (hw _ (List.mem_of_getElem? (i := 60) rfl))) (mvT hZ (hw _ (List.mem_of_getElem? (i := 61) rfl))) (notFace_of_selects (args := #[]) (mvT hZ (hw _ (List.mem_of_getElem? (i := 63) rfl)))) (mvT hZ (hw _ (List.mem_of_getElem? (i := 63) rfl))) (mvT hZ (hw _ (List.mem_of_getElem? (i := 62) rfl))) (by decide) (backOf (W := 0) (rm8_A l Z a0 hw [] b7 v3 (1 : Int64) (v1.toInt64) b10_0 (0 : Int64) (0 : Int64) (0 : Int32) (0 : Int64) w19 T10.heap n0 zp10 ex10_0 fa10_0 fa10_1 fa10_2 fa10_3 fa10_4 fa10_5 fa10_6 g_b7 ab10_0 (own_eq0  ) (own_eq7  ) (by subst hv3; exact own_eq10 p1 ) (by subst hw19 hv1; exact own_eq11 p3 ) rfl) hZ (hw _ (List.mem_of_getElem? (i := 64) rfl)) (hw _ (List.mem_of_getElem? (i := 4) rfl)) (by decide) (by decide)) qa20 qc20 (g := (mkF m 82 #[.val (.long p1), .second, .val (.int p2), .val (.int p3), .val (.long p4), .second, .val (.long p5), .second, .val (.long p6), .second, .val (.int v1), .val (.int v2), .val (.long v3), .second, .val (.long v4), .second, .val (.long v6), .second, .val (.ref b7), .unset, .unset, .unset, .unset] [(.long v3), (.ref b7)])) rfl (by rw [hml]; rfl) (Steps.refl _) (argsL := [(.long v3)]) (rest := []) (lenOf own_pd7 rfl) rfl (by show 2 * 0 + _ ≤ _; exact Nat.le_of_eq rfl) (hb hby at_82) (fun _ _ => ⟨rfl, rfl, (by decide : 0 + 1 + 1 + 0 + 1 + 0 ≤ _), (by decide : 0 + 7 + 6 + 0 + 8 + 0 ≤ _)⟩)
    dsimp only [Pt.U, Pt.locs, Pt.cells, Pt.slots] at X20 l20 y20 z20 st20 hQ20
    subst l20 y20 z20
    obtain ⟨rfl, N20q, K20, ex20_0, fa20_0, fa20_1, fa20_2, fa20_3, fa20_4, fa20_5, fa20_6⟩ := hQ20
    have N20 := Fr.app N10 N20q
    have kk20 : Keep h0 T20.heap [] := kk10.trans K20 (allS (Or.inr sz_b7) all0)
    have zp20 : n0 ≤ T20.heap.size := Nat.le_trans Z0 kk20.1
    generalize hw21 : (own_adA_newest v3 (1 : Int64) (0 : Int64)) = w21 at fa20_3
    generalize hw22 : (own_adA_newestNumber v3 (1 : Int64) (0 : Int64) (0 : Int64)) = w22 at fa20_4
    generalize hw23 : (own_adA_newestSlot v3 (1 : Int64) (0 : Int64) (0 : Int32) w19) = w23 at fa20_5
    refine own_go (fun tgt cont => st20.trans cont) ?_
    show own_Go p e below s (Q0 n0) room_1.cells room_1.slots (T20.setTop (mkF m 85 #[.val (.long p1), .second, .val (.int p2), .val (.int p3), .val (.long p4), .second, .val (.long p5), .second, .val (.long p6), .second, .val (.int v1), .val (.int v2), .val (.long v3), .second, .val (.long v4), .second, .val (.long v6), .second, .val (.ref b7), .unset, .unset, .unset, .unset] []))
    have hN : 1 ≤ v1.toInt ∧ v1.toInt ≤ 4 := by rw [← hv1]; exact own_n1 p3
    have hT : -2305843009213693952 ≤ v3.toInt ∧ v3.toInt ≤ 2305843009213693951 := by rw [← hv3]; exact own_t1 p1
    have hS : 0 ≤ v2.toInt ∧ v2.toInt ≤ 7 := by rw [← hv2]; exact own_s7 p2
    obtain ⟨hNi, hN4⟩ := own_nat v1 hN
    have hT1 : v4.toInt = v3.toInt + v2.toInt := by rw [← hv4]; exact own_t1s _ _ hT hS
    have hl0 : w19.length = v1.toNatClampNeg := by rw [← hw19]; exact List.length_replicate
    have F0 : own_F v3.toInt (1 : Int64).toInt v1.toNatClampNeg w21 w22 w23 := by rw [← hw21, ← hw22, ← hw23]; exact own_adAF 0 v3 1 0 0 0 w19 v1.toNatClampNeg (own_F0 _ _) hl0 hN4.1 (by omega) (by decide) (by decide) (by omega)
    have F1 := own_F1 F0
    refine own_go (B := T20.setTop (mkF m 89 #[.val (.long p1), .second, .val (.int p2), .val (.int p3), .val (.long p4), .second, .val (.long p5), .second, .val (.long p6), .second, .val (.int v1), .val (.int v2), .val (.long v3), .second, .val (.long v4), .second, .val (.long v6), .second, .val (.ref b7), .unset, .unset, .unset, .unset] [(.long p4), (.ref b7)])) (fun tgt cont => ?_) ?_
    · refine XS.aload X20.here hx rfl (hb hby at_85) rfl rfl ?_
      refine XS.lload X20.here hx rfl (hb hby at_87) rfl ?_
      exact cont
    -- pc 89: BucketWindow.add
    have f25 := (ab10_0.keep K20 (ninS (Ne.symm ne_b7_b10_0) nin0))
    obtain ⟨cq24, kq24, qa24, qb24, qc24⟩ := isOf hZ rfl ex20_0
    obtain ⟨_, _, ⟨T24, L24, k24, n24⟩, -, X24, ⟨Lc24, hQ24, l24, y24, z24⟩, st24⟩ := X20.virtualBack hx (y := (⟨"com/example/eschborn/eschborn/engine/BucketWindow", "add", "(J)V"⟩ : MethodName)) (z := (⟨"com/example/eschborn/eschborn/engine/BucketWindow", "add", "(J)V"⟩ : MethodName)) hown (mvT hZ (hw _ (List.mem_of_getElem? (i := 75) rfl))) (mvT hZ (hw _ (List.mem_of_getElem? (i := 76) rfl))) (notFace_of_selects (args := #[]) (mvT hZ (hw _ (List.mem_of_getElem? (i := 78) rfl)))) (mvT hZ (hw _ (List.mem_of_getElem? (i := 78) rfl))) (mvT hZ (hw _ (List.mem_of_getElem? (i := 77) rfl))) (by decide) (backOf (W := 0) (rm11 l Z a0 hw [] b7 p4 (1 : Int64) (v1.toInt64) b10_0 w21 w22 w23 (0 : Int64) w19 T20.heap n0 zp20 ex20_0 fa20_0 fa20_1 fa20_2 fa20_3 fa20_4 fa20_5 fa20_6 g_b7 f25 g_b10_0 (own_hsF F1.2.2 hl0 hN4.1)) hZ (hw _ (List.mem_of_getElem? (i := 79) rfl)) (hw _ (List.mem_of_getElem? (i := 4) rfl)) (by decide) (by decide)) qa24 qc24 (g := (mkF m 89 #[.val (.long p1), .second, .val (.int p2), .val (.int p3), .val (.long p4), .second, .val (.long p5), .second, .val (.long p6), .second, .val (.int v1), .val (.int v2), .val (.long v3), .second, .val (.long v4), .second, .val (.long v6), .second, .val (.ref b7), .unset, .unset, .unset, .unset] [(.long p4), (.ref b7)])) rfl (by rw [hml]; rfl) (Steps.refl _) (argsL := [(.long p4)]) (rest := []) (lenOf own_pd7 rfl) rfl (by show 2 * 0 + _ ≤ _; exact Nat.le_of_eq rfl) (hb hby at_89) (fun _ _ => ⟨rfl, rfl, (by decide : 0 + 1 + 1 + 0 + 1 + 0 + 0 ≤ _), (by decide : 0 + 7 + 6 + 0 + 8 + 0 + 0 ≤ _)⟩)
    dsimp only [Pt.U, Pt.locs, Pt.cells, Pt.slots] at X24 l24 y24 z24 st24 hQ24
    subst l24 y24 z24
    obtain ⟨rfl, N24q, K24, ex24_0, fa24_0, fa24_1, fa24_2, fa24_3, fa24_4, fa24_5, fa24_6, fa24_7⟩ := hQ24
    have N24 := Fr.app N20 N24q
    have kk24 : Keep h0 T24.heap [] := kk20.trans K24 (allS (Or.inr sz_b7) (allS (Or.inr sz_b10_0) all0))
    have zp24 : n0 ≤ T24.heap.size := Nat.le_trans Z0 kk24.1
    generalize hw26 : (own_add_load p4 (0 : Int64)) = w26 at fa24_6
    generalize hw27 : (own_add_ts p4 w23 w19) = w27 at fa24_7
    refine own_go (fun tgt cont => st24.trans cont) ?_
    show own_Go p e below s (Q0 n0) room_1.cells room_1.slots (T24.setTop (mkF m 92 #[.val (.long p1), .second, .val (.int p2), .val (.int p3), .val (.long p4), .second, .val (.long p5), .second, .val (.long p6), .second, .val (.int v1), .val (.int v2), .val (.long v3), .second, .val (.long v4), .second, .val (.long v6), .second, .val (.ref b7), .unset, .unset, .unset, .unset] []))
    have TT : own_T w27 v1.toNatClampNeg (fun j => if j = (v3.toInt % (v1.toNatClampNeg : Int)).toNat then p4 else 0) := by rw [← hw27, ← hw19]; exact own_TT1 p4 F1.2.2 hN4.1
    have hL : w26 = p4 := by rw [← hw26]; exact own_LL1 p4
    refine own_go (B := T24.setTop (mkF m 96 #[.val (.long p1), .second, .val (.int p2), .val (.int p3), .val (.long p4), .second, .val (.long p5), .second, .val (.long p6), .second, .val (.int v1), .val (.int v2), .val (.long v3), .second, .val (.long v4), .second, .val (.long v6), .second, .val (.ref b7), .unset, .unset, .unset, .unset] [(.long v4), (.ref b7)])) (fun tgt cont => ?_) ?_
    · refine XS.aload X24.here hx rfl (hb hby at_92) rfl rfl ?_
      refine XS.lload X24.here hx rfl (hb hby at_94) rfl ?_
      exact cont
    have KP : ∀ (T28 : State) (L28 : List Loc) (h28 : Heap) (wn2 wm2 wl2 : Int64) (ws2 : Int32) (ts2 : List Int64) (X28 : Stand p l e room_1 s m #[(.long p1), (.int p2), (.int p3), (.long p4), (.long p5), (.long p6)] below meth c T28 L28 3 21) (e28 : T28.heap = h28) (N28 : Fr n0 L28) (kk28 : Keep h0 h28 []) (f28_0 : Exa Z h28 b7 "com/example/eschborn/eschborn/engine/BucketWindow") (f28_1 : Fld Z h28 b7 "com/example/eschborn/eschborn/engine/BucketWindow" "bucket" "J" (.long (1 : Int64))) (f28_2 : Fld Z h28 b7 "com/example/eschborn/eschborn/engine/BucketWindow" "window" "J" (.long (v1.toInt64))) (f28_3 : Fld Z h28 b7 "com/example/eschborn/eschborn/engine/BucketWindow" "totals" "[J" (.ref b10_0)) (f28_4 : Fld Z h28 b7 "com/example/eschborn/eschborn/engine/BucketWindow" "newest" "J" (.long wn2)) (f28_5 : Fld Z h28 b7 "com/example/eschborn/eschborn/engine/BucketWindow" "newestSlot" "I" (.int ws2)) (f28_6 : Fld Z h28 b7 "com/example/eschborn/eschborn/engine/BucketWindow" "load" "J" (.long wl2)) (f28_7 : Fld Z h28 b7 "com/example/eschborn/eschborn/engine/BucketWindow" "newestNumber" "J" (.long wm2)) (f28_8 : own_LA Z h28 b10_0 ts2) (hP : own_P1 v3.toInt v2.toInt v1.toNatClampNeg wm2 ws2 ts2 p4), own_Go p e below s (Q0 n0) room_1.cells room_1.slots (T28.setTop (mkF m 99 #[.val (.long p1), .second, .val (.int p2), .val (.int p3), .val (.long p4), .second, .val (.long p5), .second, .val (.long p6), .second, .val (.int v1), .val (.int v2), .val (.long v3), .second, .val (.long v4), .second, .val (.long v6), .second, .val (.ref b7), .unset, .unset, .unset, .unset] [])) := by
      intro T28 L28 h28 wn2 wm2 wl2 ws2 ts2 X28 e28 N28 kk28 f28_0 f28_1 f28_2 f28_3 f28_4 f28_5 f28_6 f28_7 f28_8 hP
      have zp28 : n0 ≤ h28.size := Nat.le_trans Z0 kk28.1
      refine own_go (B := T28.setTop (mkF m 103 #[.val (.long p1), .second, .val (.int p2), .val (.int p3), .val (.long p4), .second, .val (.long p5), .second, .val (.long p6), .second, .val (.int v1), .val (.int v2), .val (.long v3), .second, .val (.long v4), .second, .val (.long v6), .second, .val (.ref b7), .unset, .unset, .unset, .unset] [(.long p5), (.ref b7)])) (fun tgt cont => ?_) ?_
      · refine XS.aload X28.here hx rfl (hb hby at_99) rfl rfl ?_
        refine XS.lload X28.here hx rfl (hb hby at_101) rfl ?_
        exact cont
      -- pc 103: BucketWindow.add
      obtain ⟨cq29, kq29, qa29, qb29, qc29⟩ := isOf hZ e28 f28_0
      obtain ⟨_, _, ⟨T29, L29, k29, n29⟩, -, X29, ⟨Lc29, hQ29, l29, y29, z29⟩, st29⟩ := X28.virtualBack hx (y := (⟨"com/example/eschborn/eschborn/engine/BucketWindow", "add", "(J)V"⟩ : MethodName)) (z := (⟨"com/example/eschborn/eschborn/engine/BucketWindow", "add", "(J)V"⟩ : MethodName)) hown (mvT hZ (hw _ (List.mem_of_getElem? (i := 75) rfl))) (mvT hZ (hw _ (List.mem_of_getElem? (i := 76) rfl))) (notFace_of_selects (args := #[]) (mvT hZ (hw _ (List.mem_of_getElem? (i := 78) rfl)))) (mvT hZ (hw _ (List.mem_of_getElem? (i := 78) rfl))) (mvT hZ (hw _ (List.mem_of_getElem? (i := 77) rfl))) (by decide) (backOf (W := 0) (rm11 l Z a0 hw [] b7 p5 (1 : Int64) (v1.toInt64) b10_0 wn2 wm2 ws2 wl2 ts2 h28 n0 zp28 f28_0 f28_1 f28_2 f28_3 f28_4 f28_7 f28_5 f28_6 g_b7 f28_8 g_b10_0 (own_hsF hP.2.1 hP.2.2.1 hN4.1)) hZ (hw _ (List.mem_of_getElem? (i := 79) rfl)) (hw _ (List.mem_of_getElem? (i := 4) rfl)) (by decide) (by decide)) qa29 qc29 (g := (mkF m 103 #[.val (.long p1), .second, .val (.int p2), .val (.int p3), .val (.long p4), .second, .val (.long p5), .second, .val (.long p6), .second, .val (.int v1), .val (.int v2), .val (.long v3), .second, .val (.long v4), .second, .val (.long v6), .second, .val (.ref b7), .unset, .unset, .unset, .unset] [(.long p5), (.ref b7)])) rfl (by rw [hml]; rfl) (Steps.refl _) (argsL := [(.long p5)]) (rest := []) (lenOf own_pd7 rfl) rfl (by show 2 * 0 + _ ≤ _; exact Nat.le_of_eq rfl) (hb hby at_103) (fun _ _ => ⟨rfl, e28, (by decide : 3 + 0 ≤ _), (by decide : 21 + 0 ≤ _)⟩)
      dsimp only [Pt.U, Pt.locs, Pt.cells, Pt.slots] at X29 l29 y29 z29 st29 hQ29
      subst l29 y29 z29
      obtain ⟨rfl, N29q, K29, ex29_0, fa29_0, fa29_1, fa29_2, fa29_3, fa29_4, fa29_5, fa29_6, fa29_7⟩ := hQ29
      have N29 := Fr.app N28 N29q
      have kk29 : Keep h0 T29.heap [] := kk28.trans K29 (allS (Or.inr sz_b7) (allS (Or.inr sz_b10_0) all0))
      have zp29 : n0 ≤ T29.heap.size := Nat.le_trans Z0 kk29.1
      generalize hw30 : (own_add_load p5 wl2) = w30 at fa29_6
      generalize hw31 : (own_add_ts p5 ws2 ts2) = w31 at fa29_7
      refine own_go (fun tgt cont => st29.trans cont) ?_
      show own_Go p e below s (Q0 n0) room_1.cells room_1.slots (T29.setTop (mkF m 106 #[.val (.long p1), .second, .val (.int p2), .val (.int p3), .val (.long p4), .second, .val (.long p5), .second, .val (.long p6), .second, .val (.int v1), .val (.int v2), .val (.long v3), .second, .val (.long v4), .second, .val (.long v6), .second, .val (.ref b7), .unset, .unset, .unset, .unset] []))
      refine own_go (B := T29.setTop (mkF m 110 #[.val (.long p1), .second, .val (.int p2), .val (.int p3), .val (.long p4), .second, .val (.long p5), .second, .val (.long p6), .second, .val (.int v1), .val (.int v2), .val (.long v3), .second, .val (.long v4), .second, .val (.long v6), .second, .val (.ref b7), .unset, .unset, .unset, .unset] [(.long v6), (.ref b7)])) (fun tgt cont => ?_) ?_
      · refine XS.aload X29.here hx rfl (hb hby at_106) rfl rfl ?_
        refine XS.lload X29.here hx rfl (hb hby at_108) rfl ?_
        exact cont
      -- pc 110: BucketWindow.leavingAt
      obtain ⟨cq32, kq32, qa32, qb32, qc32⟩ := isOf hZ rfl ex29_0
      obtain ⟨_, _, ⟨T32, L32, k32, n32⟩, -, X32, ⟨Lc32, hQ32, l32, y32, z32⟩, st32⟩ := X29.virtualBack hx (y := (⟨"com/example/eschborn/eschborn/engine/BucketWindow", "leavingAt", "(J)J"⟩ : MethodName)) (z := (⟨"com/example/eschborn/eschborn/engine/BucketWindow", "leavingAt", "(J)J"⟩ : MethodName)) hown (mvT hZ (hw _ (List.mem_of_getElem? (i := 118) rfl))) (mvT hZ (hw _ (List.mem_of_getElem? (i := 119) rfl))) (notFace_of_selects (args := #[]) (mvT hZ (hw _ (List.mem_of_getElem? (i := 121) rfl)))) (mvT hZ (hw _ (List.mem_of_getElem? (i := 121) rfl))) (mvT hZ (hw _ (List.mem_of_getElem? (i := 120) rfl))) (by decide) (backOf (W := 0) (rm20 l Z a0 hw [] b7 v6 b10_0 wm2 ws2 w31 T29.heap n0 zp29 ex29_0 fa29_2 fa29_4 fa29_5 fa29_7 (by rw [← hw31]; exact own_setB (own_hsF hP.2.1 hP.2.2.1 hN4.1))) hZ (hw _ (List.mem_of_getElem? (i := 122) rfl)) (hw _ (List.mem_of_getElem? (i := 4) rfl)) (by decide) (by decide)) qa32 qc32 (g := (mkF m 110 #[.val (.long p1), .second, .val (.int p2), .val (.int p3), .val (.long p4), .second, .val (.long p5), .second, .val (.long p6), .second, .val (.int v1), .val (.int v2), .val (.long v3), .second, .val (.long v4), .second, .val (.long v6), .second, .val (.ref b7), .unset, .unset, .unset, .unset] [(.long v6), (.ref b7)])) rfl (by rw [hml]; rfl) (Steps.refl _) (argsL := [(.long v6)]) (rest := []) (lenOf own_pd6 rfl) rfl (by show 2 * 0 + _ ≤ _; exact Nat.le_of_eq rfl) (hb hby at_110) (fun _ _ => ⟨rfl, rfl, (by decide : 3 + 0 + 0 ≤ _), (by decide : 21 + 0 + 0 ≤ _)⟩)
      dsimp only [Pt.U, Pt.locs, Pt.cells, Pt.slots] at X32 l32 y32 z32 st32 hQ32
      subst l32 y32 z32
      obtain ⟨rfl, N32q, e32⟩ := hQ32
      have N32 := Fr.app N29 N32q
      refine own_go (fun tgt cont => st32.trans cont) ?_
      show own_Go p e below s (Q0 n0) room_1.cells room_1.slots (T32.setTop (mkF m 113 #[.val (.long p1), .second, .val (.int p2), .val (.int p3), .val (.long p4), .second, .val (.long p5), .second, .val (.long p6), .second, .val (.int v1), .val (.int v2), .val (.long v3), .second, .val (.long v4), .second, .val (.long v6), .second, .val (.ref b7), .unset, .unset, .unset, .unset] [(.long (own_lea_r v6 wm2 ws2 w31))]))
      generalize hr33 : (own_lea_r v6 wm2 ws2 w31) = r33
      refine own_go (B := T32.setTop (mkF m 123 #[.val (.long p1), .second, .val (.int p2), .val (.int p3), .val (.long p4), .second, .val (.long p5), .second, .val (.long p6), .second, .val (.int v1), .val (.int v2), .val (.long v3), .second, .val (.long v4), .second, .val (.long v6), .second, .val (.ref b7), .val (.long r33), .second, .val (.long (0 : Int64)), .second] [(.int (XT.cmpL v6 v4))])) (fun tgt cont => ?_) ?_
      · refine XS.lstore X32.here hx rfl (hb hby at_113) rfl (l' := #[.val (.long p1), .second, .val (.int p2), .val (.int p3), .val (.long p4), .second, .val (.long p5), .second, .val (.long p6), .second, .val (.int v1), .val (.int v2), .val (.long v3), .second, .val (.long v4), .second, .val (.long v6), .second, .val (.ref b7), .val (.long r33), .second, .unset, .unset]) rfl ?_
        refine XT.lconstV X32.here hx rfl (0 : Int64) (hb hby at_115) rfl ?_
        refine XS.lstore X32.here hx rfl (hb hby at_116) rfl (l' := #[.val (.long p1), .second, .val (.int p2), .val (.int p3), .val (.long p4), .second, .val (.long p5), .second, .val (.long p6), .second, .val (.int v1), .val (.int v2), .val (.long v3), .second, .val (.long v4), .second, .val (.long v6), .second, .val (.ref b7), .val (.long r33), .second, .val (.long (0 : Int64)), .second]) rfl ?_
        refine XS.lload X32.here hx rfl (hb hby at_118) rfl ?_
        refine XS.lload X32.here hx rfl (hb hby at_120) rfl ?_
        refine XT.lcmp X32.here hx rfl (hb hby at_122) rfl ?_
        exact cont
      have K34 : ∀ (v35 : Int64) (hv35 : v35 = (if v4 < v6 then (if (v4 + (v1.toInt64)) < v6 then (0 : Int64) else (if v6 = (v4 + (v1.toInt64)) then ((if v2 = 0 then (p5 + p4) else p5)) else (if v6 = (v3 + (v1.toInt64)) then p4 else (0 : Int64)))) else (0 : Int64))), own_Go p e below s (Q0 n0) room_1.cells room_1.slots (T32.setTop (mkF m 186 #[.val (.long p1), .second, .val (.int p2), .val (.int p3), .val (.long p4), .second, .val (.long p5), .second, .val (.long p6), .second, .val (.int v1), .val (.int v2), .val (.long v3), .second, .val (.long v4), .second, .val (.long v6), .second, .val (.ref b7), .val (.long r33), .second, .val (.long v35), .second] [])) := by
        intro v35 hv35
        refine own_go (B := T32.setTop (mkF m 199 #[.val (.long p1), .second, .val (.int p2), .val (.int p3), .val (.long p4), .second, .val (.long p5), .second, .val (.long p6), .second, .val (.int v1), .val (.int v2), .val (.long v3), .second, .val (.long v4), .second, .val (.long v6), .second, .val (.ref b7), .val (.long r33), .second, .val (.long v35), .second] [(.int (1 : Int32))])) (fun tgt cont => ?_) ?_
        · refine XS.lload X32.here hx rfl (hb hby at_186) rfl ?_
          refine XS.lload X32.here hx rfl (hb hby at_188) rfl ?_
          refine XT.lcmp X32.here hx rfl (hb hby at_190) rfl ?_
          refine XS.ifNo X32.here hx rfl (hb hby at_191) rfl (XT.ll_ne_f (by rw [← hr33, ← hw31, hv35]; exact own_ok1 hP hNi hN4 rfl hT1 rfl hT hS)) ?_
          refine XT.iconstV X32.here hx rfl (1 : Int32) (hb hby at_194) rfl ?_
          refine XS.goto X32.here hx rfl (pc0 := 195) (pc' := 199) rfl (hb hby at_195) (by decide) (by decide) ?_
          exact cont
        refine own_end X32 (v := some (.int (1 : Int32))) (fun h => by rw [Bd.returns] at h; cases h) hlk ?_ (by decide) (by decide) (fun fs hl => retN X32 hx (t := .boolean) Bd.returns (by simp) (hb hby at_199) hl)
        exact ⟨rfl, N32⟩
      by_cases hc36 : v4 < v6
      ·
        refine own_go (B := T32.setTop (mkF m 135 #[.val (.long p1), .second, .val (.int p2), .val (.int p3), .val (.long p4), .second, .val (.long p5), .second, .val (.long p6), .second, .val (.int v1), .val (.int v2), .val (.long v3), .second, .val (.long v4), .second, .val (.long v6), .second, .val (.ref b7), .val (.long r33), .second, .val (.long (0 : Int64)), .second] [(.int (XT.cmpL v6 (v4 + (v1.toInt64))))])) (fun tgt cont => ?_) ?_
        · refine XS.ifNo X32.here hx rfl (hb hby at_123) rfl (XT.ll_le_f hc36) ?_
          refine XS.lload X32.here hx rfl (hb hby at_126) rfl ?_
          refine XS.lload X32.here hx rfl (hb hby at_128) rfl ?_
          refine XS.iload X32.here hx rfl (hb hby at_130) rfl ?_
          refine XS.i2l X32.here hx rfl (hb hby at_132) rfl ?_
          refine XS.ladd X32.here hx rfl (hb hby at_133) rfl ?_
          refine XT.lcmp X32.here hx rfl (hb hby at_134) rfl ?_
          exact cont
        by_cases hc37 : (v4 + (v1.toInt64)) < v6
        ·
          refine own_go (B := T32.setTop (mkF m 186 #[.val (.long p1), .second, .val (.int p2), .val (.int p3), .val (.long p4), .second, .val (.long p5), .second, .val (.long p6), .second, .val (.int v1), .val (.int v2), .val (.long v3), .second, .val (.long v4), .second, .val (.long v6), .second, .val (.ref b7), .val (.long r33), .second, .val (.long (0 : Int64)), .second] [])) (fun tgt cont => ?_) ?_
          · refine XS.ifYes X32.here hx rfl (pc0 := 135) (pc' := 186) rfl (hb hby at_135) rfl (XT.ll_gt_t hc37) (by decide) (by decide) ?_
            exact cont
          exact K34 (0 : Int64) (by simp only [if_pos hc36, if_pos hc37])
        ·
          refine own_go (B := T32.setTop (mkF m 147 #[.val (.long p1), .second, .val (.int p2), .val (.int p3), .val (.long p4), .second, .val (.long p5), .second, .val (.long p6), .second, .val (.int v1), .val (.int v2), .val (.long v3), .second, .val (.long v4), .second, .val (.long v6), .second, .val (.ref b7), .val (.long r33), .second, .val (.long (0 : Int64)), .second] [(.int (XT.cmpL v6 (v4 + (v1.toInt64))))])) (fun tgt cont => ?_) ?_
          · refine XS.ifNo X32.here hx rfl (hb hby at_135) rfl (XT.ll_gt_f hc37) ?_
            refine XS.lload X32.here hx rfl (hb hby at_138) rfl ?_
            refine XS.lload X32.here hx rfl (hb hby at_140) rfl ?_
            refine XS.iload X32.here hx rfl (hb hby at_142) rfl ?_
            refine XS.i2l X32.here hx rfl (hb hby at_144) rfl ?_
            refine XS.ladd X32.here hx rfl (hb hby at_145) rfl ?_
            refine XT.lcmp X32.here hx rfl (hb hby at_146) rfl ?_
            exact cont
          by_cases hc38 : v6 = (v4 + (v1.toInt64))
          ·
            refine own_go (B := T32.setTop (mkF m 152 #[.val (.long p1), .second, .val (.int p2), .val (.int p3), .val (.long p4), .second, .val (.long p5), .second, .val (.long p6), .second, .val (.int v1), .val (.int v2), .val (.long v3), .second, .val (.long v4), .second, .val (.long v6), .second, .val (.ref b7), .val (.long r33), .second, .val (.long (0 : Int64)), .second] [(.int v2)])) (fun tgt cont => ?_) ?_
            · refine XS.ifNo X32.here hx rfl (hb hby at_147) rfl (XT.ll_ne_f hc38) ?_
              refine XS.iload X32.here hx rfl (hb hby at_150) rfl ?_
              exact cont
            have K39 : ∀ (v40 : Int64) (hv40 : v40 = (if v2 = 0 then (p5 + p4) else p5)), own_Go p e below s (Q0 n0) room_1.cells room_1.slots (T32.setTop (mkF m 165 #[.val (.long p1), .second, .val (.int p2), .val (.int p3), .val (.long p4), .second, .val (.long p5), .second, .val (.long p6), .second, .val (.int v1), .val (.int v2), .val (.long v3), .second, .val (.long v4), .second, .val (.long v6), .second, .val (.ref b7), .val (.long r33), .second, .val (.long (0 : Int64)), .second] [(.long v40)])) := by
              intro v40 hv40
              refine own_go (B := T32.setTop (mkF m 186 #[.val (.long p1), .second, .val (.int p2), .val (.int p3), .val (.long p4), .second, .val (.long p5), .second, .val (.long p6), .second, .val (.int v1), .val (.int v2), .val (.long v3), .second, .val (.long v4), .second, .val (.long v6), .second, .val (.ref b7), .val (.long r33), .second, .val (.long v40), .second] [])) (fun tgt cont => ?_) ?_
              · refine XS.lstore X32.here hx rfl (hb hby at_165) rfl (l' := #[.val (.long p1), .second, .val (.int p2), .val (.int p3), .val (.long p4), .second, .val (.long p5), .second, .val (.long p6), .second, .val (.int v1), .val (.int v2), .val (.long v3), .second, .val (.long v4), .second, .val (.long v6), .second, .val (.ref b7), .val (.long r33), .second, .val (.long v40), .second]) rfl ?_
                refine XS.goto X32.here hx rfl (pc0 := 167) (pc' := 186) rfl (hb hby at_167) (by decide) (by decide) ?_
                exact cont
              exact K34 v40 (by subst hv40; simp only [if_pos hc36, if_neg hc37, if_pos hc38])
            by_cases hc41 : v2 = 0
            ·
              refine own_go (B := T32.setTop (mkF m 165 #[.val (.long p1), .second, .val (.int p2), .val (.int p3), .val (.long p4), .second, .val (.long p5), .second, .val (.long p6), .second, .val (.int v1), .val (.int v2), .val (.long v3), .second, .val (.long v4), .second, .val (.long v6), .second, .val (.ref b7), .val (.long r33), .second, .val (.long (0 : Int64)), .second] [(.long (p5 + p4))])) (fun tgt cont => ?_) ?_
              · refine XS.ifNo X32.here hx rfl (hb hby at_152) rfl (XT.i0_ne_f hc41) ?_
                refine XS.lload X32.here hx rfl (hb hby at_155) rfl ?_
                refine XS.lload X32.here hx rfl (hb hby at_157) rfl ?_
                refine XS.ladd X32.here hx rfl (hb hby at_159) rfl ?_
                refine XS.goto X32.here hx rfl (pc0 := 160) (pc' := 165) rfl (hb hby at_160) (by decide) (by decide) ?_
                exact cont
              exact K39 (p5 + p4) (by simp only [if_pos hc41])
            ·
              refine own_go (B := T32.setTop (mkF m 165 #[.val (.long p1), .second, .val (.int p2), .val (.int p3), .val (.long p4), .second, .val (.long p5), .second, .val (.long p6), .second, .val (.int v1), .val (.int v2), .val (.long v3), .second, .val (.long v4), .second, .val (.long v6), .second, .val (.ref b7), .val (.long r33), .second, .val (.long (0 : Int64)), .second] [(.long p5)])) (fun tgt cont => ?_) ?_
              · refine XS.ifYes X32.here hx rfl (pc0 := 152) (pc' := 163) rfl (hb hby at_152) rfl (XT.i0_ne_t hc41) (by decide) (by decide) ?_
                refine XS.lload X32.here hx rfl (hb hby at_163) rfl ?_
                exact cont
              exact K39 p5 (by simp only [if_neg hc41])
          ·
            refine own_go (B := T32.setTop (mkF m 179 #[.val (.long p1), .second, .val (.int p2), .val (.int p3), .val (.long p4), .second, .val (.long p5), .second, .val (.long p6), .second, .val (.int v1), .val (.int v2), .val (.long v3), .second, .val (.long v4), .second, .val (.long v6), .second, .val (.ref b7), .val (.long r33), .second, .val (.long (0 : Int64)), .second] [(.int (XT.cmpL v6 (v3 + (v1.toInt64))))])) (fun tgt cont => ?_) ?_
            · refine XS.ifYes X32.here hx rfl (pc0 := 147) (pc' := 170) rfl (hb hby at_147) rfl (XT.ll_ne_t hc38) (by decide) (by decide) ?_
              refine XS.lload X32.here hx rfl (hb hby at_170) rfl ?_
              refine XS.lload X32.here hx rfl (hb hby at_172) rfl ?_
              refine XS.iload X32.here hx rfl (hb hby at_174) rfl ?_
              refine XS.i2l X32.here hx rfl (hb hby at_176) rfl ?_
              refine XS.ladd X32.here hx rfl (hb hby at_177) rfl ?_
              refine XT.lcmp X32.here hx rfl (hb hby at_178) rfl ?_
              exact cont
            by_cases hc42 : v6 = (v3 + (v1.toInt64))
            ·
              refine own_go (B := T32.setTop (mkF m 186 #[.val (.long p1), .second, .val (.int p2), .val (.int p3), .val (.long p4), .second, .val (.long p5), .second, .val (.long p6), .second, .val (.int v1), .val (.int v2), .val (.long v3), .second, .val (.long v4), .second, .val (.long v6), .second, .val (.ref b7), .val (.long r33), .second, .val (.long p4), .second] [])) (fun tgt cont => ?_) ?_
              · refine XS.ifNo X32.here hx rfl (hb hby at_179) rfl (XT.ll_ne_f hc42) ?_
                refine XS.lload X32.here hx rfl (hb hby at_182) rfl ?_
                refine XS.lstore X32.here hx rfl (hb hby at_184) rfl (l' := #[.val (.long p1), .second, .val (.int p2), .val (.int p3), .val (.long p4), .second, .val (.long p5), .second, .val (.long p6), .second, .val (.int v1), .val (.int v2), .val (.long v3), .second, .val (.long v4), .second, .val (.long v6), .second, .val (.ref b7), .val (.long r33), .second, .val (.long p4), .second]) rfl ?_
                exact cont
              exact K34 p4 (by simp only [if_pos hc36, if_neg hc37, if_neg hc38, if_pos hc42])
            ·
              refine own_go (B := T32.setTop (mkF m 186 #[.val (.long p1), .second, .val (.int p2), .val (.int p3), .val (.long p4), .second, .val (.long p5), .second, .val (.long p6), .second, .val (.int v1), .val (.int v2), .val (.long v3), .second, .val (.long v4), .second, .val (.long v6), .second, .val (.ref b7), .val (.long r33), .second, .val (.long (0 : Int64)), .second] [])) (fun tgt cont => ?_) ?_
              · refine XS.ifYes X32.here hx rfl (pc0 := 179) (pc' := 186) rfl (hb hby at_179) rfl (XT.ll_ne_t hc42) (by decide) (by decide) ?_
                exact cont
              exact K34 (0 : Int64) (by simp only [if_pos hc36, if_neg hc37, if_neg hc38, if_neg hc42])
      ·
        refine own_go (B := T32.setTop (mkF m 186 #[.val (.long p1), .second, .val (.int p2), .val (.int p3), .val (.long p4), .second, .val (.long p5), .second, .val (.long p6), .second, .val (.int v1), .val (.int v2), .val (.long v3), .second, .val (.long v4), .second, .val (.long v6), .second, .val (.ref b7), .val (.long r33), .second, .val (.long (0 : Int64)), .second] [])) (fun tgt cont => ?_) ?_
        · refine XS.ifYes X32.here hx rfl (pc0 := 123) (pc' := 186) rfl (hb hby at_123) rfl (XT.ll_le_t hc36) (by decide) (by decide) ?_
          exact cont
        exact K34 (0 : Int64) (by simp only [if_neg hc36])
    have hm1 := own_hm1 v3 w21 v4 v2.toInt F1.1 hT1 hT hS
    have hwi : ((v1.toInt64)).toInt = (v1.toNatClampNeg : Int) := by rw [c_i2l, hNi]
    have hpas := own_pas1 v3 v4 w21 (v1.toInt64) w27 v1.toNatClampNeg v2.toInt F1.1 TT.1 hN4 hwi hT1 hT hS
    have hi64 := own_i64 w27 v1.toNatClampNeg TT.1 hN4
    have hTM : ¬ v4 < ((-9223372036854775808 : Int64) + (own_fm v4 (1 : Int64))) := own_tm _ _ (by decide) (by omega)
    have hLZ : (Int32.ofNat w27.length).toInt64 ≠ 0 := by
      intro e
      rw [e] at hi64
      have e0 : (0 : Int64).toInt = 0 := rfl
      omega
    have hHS := own_hsF (ts := w27) F1.2.2 TT.1 hN4.1
    by_cases hz : w26 = (0 : Int64)
    ·
      -- pc 96: BucketWindow.advance
      obtain ⟨cq43, kq43, qa43, qb43, qc43⟩ := isOf hZ rfl ex24_0
      obtain ⟨_, _, ⟨T43, L43, k43, n43⟩, -, X43, ⟨Lc43, hQ43, l43, y43, z43⟩, st43⟩ := X24.virtualBack hx (y := (⟨"com/example/eschborn/eschborn/engine/BucketWindow", "advance", "(J)V"⟩ : MethodName)) (z := (⟨"com/example/eschborn/eschborn/engine/BucketWindow", "advance", "(J)V"⟩ : MethodName)) hown (mvT hZ (hw _ (List.mem_of_getElem? (i := 60) rfl))) (mvT hZ (hw _ (List.mem_of_getElem? (i := 61) rfl))) (notFace_of_selects (args := #[]) (mvT hZ (hw _ (List.mem_of_getElem? (i := 63) rfl)))) (mvT hZ (hw _ (List.mem_of_getElem? (i := 63) rfl))) (mvT hZ (hw _ (List.mem_of_getElem? (i := 62) rfl))) (by decide) (backOf (W := 0) (rm8_A l Z a0 hw [] b7 v4 (1 : Int64) (v1.toInt64) b10_0 w21 w22 w23 w26 w27 T24.heap n0 zp24 ex24_0 fa24_0 fa24_1 fa24_2 fa24_3 fa24_4 fa24_5 fa24_6 g_b7 fa24_7 (by decide) (by decide) hTM hLZ hz) hZ (hw _ (List.mem_of_getElem? (i := 64) rfl)) (hw _ (List.mem_of_getElem? (i := 4) rfl)) (by decide) (by decide)) qa43 qc43 (g := (mkF m 96 #[.val (.long p1), .second, .val (.int p2), .val (.int p3), .val (.long p4), .second, .val (.long p5), .second, .val (.long p6), .second, .val (.int v1), .val (.int v2), .val (.long v3), .second, .val (.long v4), .second, .val (.long v6), .second, .val (.ref b7), .unset, .unset, .unset, .unset] [(.long v4), (.ref b7)])) rfl (by rw [hml]; rfl) (Steps.refl _) (argsL := [(.long v4)]) (rest := []) (lenOf own_pd7 rfl) rfl (by show 2 * 0 + _ ≤ _; exact Nat.le_of_eq rfl) (hb hby at_96) (fun _ _ => ⟨rfl, rfl, (by decide : 0 + 1 + 1 + 0 + 1 + 0 + 0 + 0 ≤ _), (by decide : 0 + 7 + 6 + 0 + 8 + 0 + 0 + 0 ≤ _)⟩)
      dsimp only [Pt.U, Pt.locs, Pt.cells, Pt.slots] at X43 l43 y43 z43 st43 hQ43
      subst l43 y43 z43
      obtain ⟨rfl, N43q, K43, ex43_0, fa43_0, fa43_1, fa43_2, fa43_3, fa43_4, fa43_5, fa43_6⟩ := hQ43
      have N43 := Fr.app N24 N43q
      have kk43 : Keep h0 T43.heap [] := kk24.trans K43 (allS (Or.inr sz_b7) all0)
      have zp43 : n0 ≤ T43.heap.size := Nat.le_trans Z0 kk43.1
      generalize hw44 : (own_adA_newest v4 (1 : Int64) w21) = w44 at fa43_3
      generalize hw45 : (own_adA_newestNumber v4 (1 : Int64) w21 w22) = w45 at fa43_4
      generalize hw46 : (own_adA_newestSlot v4 (1 : Int64) w21 w23 w27) = w46 at fa43_5
      refine own_go (fun tgt cont => st43.trans cont) ?_
      show own_Go p e below s (Q0 n0) room_1.cells room_1.slots (T43.setTop (mkF m 99 #[.val (.long p1), .second, .val (.int p2), .val (.int p3), .val (.long p4), .second, .val (.long p5), .second, .val (.long p6), .second, .val (.int v1), .val (.int v2), .val (.long v3), .second, .val (.long v4), .second, .val (.long v6), .second, .val (.ref b7), .unset, .unset, .unset, .unset] []))
      have f47 := (fa24_7.keep K43 (ninS (Ne.symm ne_b7_b10_0) nin0))
      exact KP _ _ _ w44 w45 w26 w46 w27 (own_wide X43 (by decide) (by decide)) rfl N43 kk43 ex43_0 fa43_0 fa43_1 fa43_2 fa43_3 fa43_5 fa43_6 fa43_4 f47 (by rw [← hw45, ← hw46]; exact own_P1A (own_adAF v3 v4 1 w21 w22 w23 w27 v1.toNatClampNeg F0 TT.1 hN4.1 (by omega) (by decide) (by omega) (by omega)) hT1 TT (hL.symm.trans hz))
    ·
      by_cases hk0 : v2.toInt = 0
      ·
        -- pc 96: BucketWindow.advance
        obtain ⟨cq48, kq48, qa48, qb48, qc48⟩ := isOf hZ rfl ex24_0
        obtain ⟨_, _, ⟨T48, L48, k48, n48⟩, -, X48, ⟨Lc48, hQ48, l48, y48, z48⟩, st48⟩ := X24.virtualBack hx (y := (⟨"com/example/eschborn/eschborn/engine/BucketWindow", "advance", "(J)V"⟩ : MethodName)) (z := (⟨"com/example/eschborn/eschborn/engine/BucketWindow", "advance", "(J)V"⟩ : MethodName)) hown (mvT hZ (hw _ (List.mem_of_getElem? (i := 60) rfl))) (mvT hZ (hw _ (List.mem_of_getElem? (i := 61) rfl))) (notFace_of_selects (args := #[]) (mvT hZ (hw _ (List.mem_of_getElem? (i := 63) rfl)))) (mvT hZ (hw _ (List.mem_of_getElem? (i := 63) rfl))) (mvT hZ (hw _ (List.mem_of_getElem? (i := 62) rfl))) (by decide) (backOf (W := 0) (rm8_N l Z a0 hw [] b7 v4 (1 : Int64) (v1.toInt64) b10_0 w21 w22 w23 w26 w27 T24.heap n0 zp24 ex24_0 fa24_0 fa24_1 fa24_2 fa24_3 fa24_4 fa24_5 fa24_6 fa24_7 (hm1.mpr hk0)) hZ (hw _ (List.mem_of_getElem? (i := 64) rfl)) (hw _ (List.mem_of_getElem? (i := 4) rfl)) (by decide) (by decide)) qa48 qc48 (g := (mkF m 96 #[.val (.long p1), .second, .val (.int p2), .val (.int p3), .val (.long p4), .second, .val (.long p5), .second, .val (.long p6), .second, .val (.int v1), .val (.int v2), .val (.long v3), .second, .val (.long v4), .second, .val (.long v6), .second, .val (.ref b7), .unset, .unset, .unset, .unset] [(.long v4), (.ref b7)])) rfl (by rw [hml]; rfl) (Steps.refl _) (argsL := [(.long v4)]) (rest := []) (lenOf own_pd7 rfl) rfl (by show 2 * 0 + _ ≤ _; exact Nat.le_of_eq rfl) (hb hby at_96) (fun _ _ => ⟨rfl, rfl, (by decide : 0 + 1 + 1 + 0 + 1 + 0 + 0 + 0 ≤ _), (by decide : 0 + 7 + 6 + 0 + 8 + 0 + 0 + 0 ≤ _)⟩)
        dsimp only [Pt.U, Pt.locs, Pt.cells, Pt.slots] at X48 l48 y48 z48 st48 hQ48
        subst l48 y48 z48
        obtain ⟨rfl, N48q, e48⟩ := hQ48
        have N48 := Fr.app N24 N48q
        refine own_go (fun tgt cont => st48.trans cont) ?_
        show own_Go p e below s (Q0 n0) room_1.cells room_1.slots (T48.setTop (mkF m 99 #[.val (.long p1), .second, .val (.int p2), .val (.int p3), .val (.long p4), .second, .val (.long p5), .second, .val (.long p6), .second, .val (.int v1), .val (.int v2), .val (.long v3), .second, .val (.long v4), .second, .val (.long v6), .second, .val (.ref b7), .unset, .unset, .unset, .unset] []))
        exact KP _ _ _ w21 w22 w26 w23 w27 (own_wide X48 (by decide) (by decide)) e48 N48 kk24 ex24_0 fa24_0 fa24_1 fa24_2 fa24_3 fa24_5 fa24_6 fa24_4 fa24_7 (by rw [hk0]; exact own_P1N F1.2.1 F1.2.2 TT)
      ·
        have hm := fun z => hk0 (hm1.mp z)
        by_cases hkN : (v1.toNatClampNeg : Int) ≤ v2.toInt
        ·
          have hpB : own_pas_r v4 (1 : Int64) (v1.toInt64) w21 w27 = (Int32.ofNat w27.length).toInt64 := own_pB hpas hkN hi64
          -- pc 96: BucketWindow.advance
          obtain ⟨cq49, kq49, qa49, qb49, qc49⟩ := isOf hZ rfl ex24_0
          obtain ⟨_, _, ⟨T49, L49, k49, n49⟩, -, X49, ⟨Lc49, hQ49, l49, y49, z49⟩, st49⟩ := X24.virtualBack hx (y := (⟨"com/example/eschborn/eschborn/engine/BucketWindow", "advance", "(J)V"⟩ : MethodName)) (z := (⟨"com/example/eschborn/eschborn/engine/BucketWindow", "advance", "(J)V"⟩ : MethodName)) hown (mvT hZ (hw _ (List.mem_of_getElem? (i := 60) rfl))) (mvT hZ (hw _ (List.mem_of_getElem? (i := 61) rfl))) (notFace_of_selects (args := #[]) (mvT hZ (hw _ (List.mem_of_getElem? (i := 63) rfl)))) (mvT hZ (hw _ (List.mem_of_getElem? (i := 63) rfl))) (mvT hZ (hw _ (List.mem_of_getElem? (i := 62) rfl))) (by decide) (backOf (W := 0) (rm8_B l Z a0 hw [] b7 v4 (1 : Int64) (v1.toInt64) b10_0 w21 w22 w23 w26 w27 T24.heap n0 zp24 ex24_0 fa24_0 fa24_1 fa24_2 fa24_3 fa24_4 fa24_5 fa24_6 g_b7 fa24_7 g_b10_0 hm (by decide) (by decide) hTM hLZ hz hpB) hZ (hw _ (List.mem_of_getElem? (i := 64) rfl)) (hw _ (List.mem_of_getElem? (i := 4) rfl)) (by decide) (by decide)) qa49 qc49 (g := (mkF m 96 #[.val (.long p1), .second, .val (.int p2), .val (.int p3), .val (.long p4), .second, .val (.long p5), .second, .val (.long p6), .second, .val (.int v1), .val (.int v2), .val (.long v3), .second, .val (.long v4), .second, .val (.long v6), .second, .val (.ref b7), .unset, .unset, .unset, .unset] [(.long v4), (.ref b7)])) rfl (by rw [hml]; rfl) (Steps.refl _) (argsL := [(.long v4)]) (rest := []) (lenOf own_pd7 rfl) rfl (by show 2 * 0 + _ ≤ _; exact Nat.le_of_eq rfl) (hb hby at_96) (fun _ _ => ⟨rfl, rfl, (by decide : 0 + 1 + 1 + 0 + 1 + 0 + 0 + 0 ≤ _), (by decide : 0 + 7 + 6 + 0 + 8 + 0 + 0 + 0 ≤ _)⟩)
          dsimp only [Pt.U, Pt.locs, Pt.cells, Pt.slots] at X49 l49 y49 z49 st49 hQ49
          subst l49 y49 z49
          obtain ⟨rfl, N49q, K49, ex49_0, fa49_0, fa49_1, fa49_2, fa49_3, fa49_4, fa49_5, fa49_6, fa49_7⟩ := hQ49
          have N49 := Fr.app N24 N49q
          have kk49 : Keep h0 T49.heap [] := kk24.trans K49 (allS (Or.inr sz_b7) (allS (Or.inr sz_b10_0) all0))
          have zp49 : n0 ≤ T49.heap.size := Nat.le_trans Z0 kk49.1
          generalize hw50 : (own_adB_newest v4 (1 : Int64)) = w50 at fa49_3
          generalize hw51 : (own_adB_newestNumber v4 (1 : Int64)) = w51 at fa49_4
          generalize hw52 : (own_adB_newestSlot v4 (1 : Int64) w27) = w52 at fa49_5
          generalize hw53 : (own_adB_ts w27) = w53 at fa49_7
          refine own_go (fun tgt cont => st49.trans cont) ?_
          show own_Go p e below s (Q0 n0) room_1.cells room_1.slots (T49.setTop (mkF m 99 #[.val (.long p1), .second, .val (.int p2), .val (.int p3), .val (.long p4), .second, .val (.long p5), .second, .val (.long p6), .second, .val (.int v1), .val (.int v2), .val (.long v3), .second, .val (.long v4), .second, .val (.long v6), .second, .val (.ref b7), .unset, .unset, .unset, .unset] []))
          exact KP _ _ _ w50 w51 (0 : Int64) w52 w53 (own_wide X49 (by decide) (by decide)) rfl N49 kk49 ex49_0 fa49_0 fa49_1 fa49_2 fa49_3 fa49_5 fa49_6 fa49_4 fa49_7 (by rw [← hw51, ← hw52, ← hw53]; exact own_P1B hT1 TT.1 hN4 hkN (by omega))
        ·
          have hk3 := own_k3 hk0 hS hkN hN4
          rcases hk3 with ⟨hk, hkn⟩ | ⟨hk, hkn⟩ | ⟨hk, hkn⟩
          ·
            have hpC : own_pas_r v4 (1 : Int64) (v1.toInt64) w21 w27 = (1 : Int64) := own_pC 1 hpas hk hkN rfl
            have hnC : ¬ (1 : Int64) = (Int32.ofNat w27.length).toInt64 := own_nC 1 hi64 hkn rfl
            -- pc 96: BucketWindow.advance
            obtain ⟨cq54, kq54, qa54, qb54, qc54⟩ := isOf hZ rfl ex24_0
            obtain ⟨_, _, ⟨T54, L54, k54, n54⟩, -, X54, ⟨Lc54, hQ54, l54, y54, z54⟩, st54⟩ := X24.virtualBack hx (y := (⟨"com/example/eschborn/eschborn/engine/BucketWindow", "advance", "(J)V"⟩ : MethodName)) (z := (⟨"com/example/eschborn/eschborn/engine/BucketWindow", "advance", "(J)V"⟩ : MethodName)) hown (mvT hZ (hw _ (List.mem_of_getElem? (i := 60) rfl))) (mvT hZ (hw _ (List.mem_of_getElem? (i := 61) rfl))) (notFace_of_selects (args := #[]) (mvT hZ (hw _ (List.mem_of_getElem? (i := 63) rfl)))) (mvT hZ (hw _ (List.mem_of_getElem? (i := 63) rfl))) (mvT hZ (hw _ (List.mem_of_getElem? (i := 62) rfl))) (by decide) (backOf (W := 0) (rm8_C1 l Z a0 hw [] b7 v4 (1 : Int64) (v1.toInt64) b10_0 w21 w22 w23 w26 w27 T24.heap n0 zp24 ex24_0 fa24_0 fa24_1 fa24_2 fa24_3 fa24_4 fa24_5 fa24_6 g_b7 fa24_7 g_b10_0 hm (by decide) hz hpC hnC hHS) hZ (hw _ (List.mem_of_getElem? (i := 64) rfl)) (hw _ (List.mem_of_getElem? (i := 4) rfl)) (by decide) (by decide)) qa54 qc54 (g := (mkF m 96 #[.val (.long p1), .second, .val (.int p2), .val (.int p3), .val (.long p4), .second, .val (.long p5), .second, .val (.long p6), .second, .val (.int v1), .val (.int v2), .val (.long v3), .second, .val (.long v4), .second, .val (.long v6), .second, .val (.ref b7), .unset, .unset, .unset, .unset] [(.long v4), (.ref b7)])) rfl (by rw [hml]; rfl) (Steps.refl _) (argsL := [(.long v4)]) (rest := []) (lenOf own_pd7 rfl) rfl (by show 2 * 0 + _ ≤ _; exact Nat.le_of_eq rfl) (hb hby at_96) (fun _ _ => ⟨rfl, rfl, (by decide : 0 + 1 + 1 + 0 + 1 + 0 + 0 + 0 ≤ _), (by decide : 0 + 7 + 6 + 0 + 8 + 0 + 0 + 0 ≤ _)⟩)
            dsimp only [Pt.U, Pt.locs, Pt.cells, Pt.slots] at X54 l54 y54 z54 st54 hQ54
            subst l54 y54 z54
            obtain ⟨rfl, N54q, K54, ex54_0, fa54_0, fa54_1, fa54_2, fa54_3, fa54_4, fa54_5, fa54_6, fa54_7⟩ := hQ54
            have N54 := Fr.app N24 N54q
            have kk54 : Keep h0 T54.heap [] := kk24.trans K54 (allS (Or.inr sz_b7) (allS (Or.inr sz_b10_0) all0))
            have zp54 : n0 ≤ T54.heap.size := Nat.le_trans Z0 kk54.1
            generalize hw55 : (own_adC1_newest (1 : Int64) w21) = w55 at fa54_3
            generalize hw56 : (own_adC1_newestNumber w22) = w56 at fa54_4
            generalize hw57 : (own_adC1_newestSlot w23 w27) = w57 at fa54_5
            generalize hw58 : (own_adC1_load w23 w26 w27) = w58 at fa54_6
            generalize hw59 : (own_adC1_ts w23 w27) = w59 at fa54_7
            refine own_go (fun tgt cont => st54.trans cont) ?_
            show own_Go p e below s (Q0 n0) room_1.cells room_1.slots (T54.setTop (mkF m 99 #[.val (.long p1), .second, .val (.int p2), .val (.int p3), .val (.long p4), .second, .val (.long p5), .second, .val (.long p6), .second, .val (.int v1), .val (.int v2), .val (.long v3), .second, .val (.long v4), .second, .val (.long v6), .second, .val (.ref b7), .unset, .unset, .unset, .unset] []))
            exact KP _ _ _ w55 w56 w58 w57 w59 (own_wide X54 (by decide) (by decide)) rfl N54 kk54 ex54_0 fa54_0 fa54_1 fa54_2 fa54_3 fa54_5 fa54_6 fa54_4 fa54_7 (by rw [← hw56, ← hw57, ← hw59, hk]; exact own_P1C1 F1.2.1 F1.2.2 TT hN4 hkn hT)
          ·
            have hpC : own_pas_r v4 (1 : Int64) (v1.toInt64) w21 w27 = (2 : Int64) := own_pC 2 hpas hk hkN rfl
            have hnC : ¬ (2 : Int64) = (Int32.ofNat w27.length).toInt64 := own_nC 2 hi64 hkn rfl
            -- pc 96: BucketWindow.advance
            obtain ⟨cq60, kq60, qa60, qb60, qc60⟩ := isOf hZ rfl ex24_0
            obtain ⟨_, _, ⟨T60, L60, k60, n60⟩, -, X60, ⟨Lc60, hQ60, l60, y60, z60⟩, st60⟩ := X24.virtualBack hx (y := (⟨"com/example/eschborn/eschborn/engine/BucketWindow", "advance", "(J)V"⟩ : MethodName)) (z := (⟨"com/example/eschborn/eschborn/engine/BucketWindow", "advance", "(J)V"⟩ : MethodName)) hown (mvT hZ (hw _ (List.mem_of_getElem? (i := 60) rfl))) (mvT hZ (hw _ (List.mem_of_getElem? (i := 61) rfl))) (notFace_of_selects (args := #[]) (mvT hZ (hw _ (List.mem_of_getElem? (i := 63) rfl)))) (mvT hZ (hw _ (List.mem_of_getElem? (i := 63) rfl))) (mvT hZ (hw _ (List.mem_of_getElem? (i := 62) rfl))) (by decide) (backOf (W := 0) (rm8_C2 l Z a0 hw [] b7 v4 (1 : Int64) (v1.toInt64) b10_0 w21 w22 w23 w26 w27 T24.heap n0 zp24 ex24_0 fa24_0 fa24_1 fa24_2 fa24_3 fa24_4 fa24_5 fa24_6 g_b7 fa24_7 g_b10_0 hm (by decide) hz hpC hnC hHS) hZ (hw _ (List.mem_of_getElem? (i := 64) rfl)) (hw _ (List.mem_of_getElem? (i := 4) rfl)) (by decide) (by decide)) qa60 qc60 (g := (mkF m 96 #[.val (.long p1), .second, .val (.int p2), .val (.int p3), .val (.long p4), .second, .val (.long p5), .second, .val (.long p6), .second, .val (.int v1), .val (.int v2), .val (.long v3), .second, .val (.long v4), .second, .val (.long v6), .second, .val (.ref b7), .unset, .unset, .unset, .unset] [(.long v4), (.ref b7)])) rfl (by rw [hml]; rfl) (Steps.refl _) (argsL := [(.long v4)]) (rest := []) (lenOf own_pd7 rfl) rfl (by show 2 * 0 + _ ≤ _; exact Nat.le_of_eq rfl) (hb hby at_96) (fun _ _ => ⟨rfl, rfl, (by decide : 0 + 1 + 1 + 0 + 1 + 0 + 0 + 0 ≤ _), (by decide : 0 + 7 + 6 + 0 + 8 + 0 + 0 + 0 ≤ _)⟩)
            dsimp only [Pt.U, Pt.locs, Pt.cells, Pt.slots] at X60 l60 y60 z60 st60 hQ60
            subst l60 y60 z60
            obtain ⟨rfl, N60q, K60, ex60_0, fa60_0, fa60_1, fa60_2, fa60_3, fa60_4, fa60_5, fa60_6, fa60_7⟩ := hQ60
            have N60 := Fr.app N24 N60q
            have kk60 : Keep h0 T60.heap [] := kk24.trans K60 (allS (Or.inr sz_b7) (allS (Or.inr sz_b10_0) all0))
            have zp60 : n0 ≤ T60.heap.size := Nat.le_trans Z0 kk60.1
            generalize hw61 : (own_adC2_newest (1 : Int64) w21) = w61 at fa60_3
            generalize hw62 : (own_adC2_newestNumber w22) = w62 at fa60_4
            generalize hw63 : (own_adC2_newestSlot w23 w27) = w63 at fa60_5
            generalize hw64 : (own_adC2_load w23 w26 w27) = w64 at fa60_6
            generalize hw65 : (own_adC2_ts w23 w27) = w65 at fa60_7
            refine own_go (fun tgt cont => st60.trans cont) ?_
            show own_Go p e below s (Q0 n0) room_1.cells room_1.slots (T60.setTop (mkF m 99 #[.val (.long p1), .second, .val (.int p2), .val (.int p3), .val (.long p4), .second, .val (.long p5), .second, .val (.long p6), .second, .val (.int v1), .val (.int v2), .val (.long v3), .second, .val (.long v4), .second, .val (.long v6), .second, .val (.ref b7), .unset, .unset, .unset, .unset] []))
            exact KP _ _ _ w61 w62 w64 w63 w65 (own_wide X60 (by decide) (by decide)) rfl N60 kk60 ex60_0 fa60_0 fa60_1 fa60_2 fa60_3 fa60_5 fa60_6 fa60_4 fa60_7 (by rw [← hw62, ← hw63, ← hw65, hk]; exact own_P1C2 F1.2.1 F1.2.2 TT hN4 hkn hT)
          ·
            have hpC : own_pas_r v4 (1 : Int64) (v1.toInt64) w21 w27 = (3 : Int64) := own_pC 3 hpas hk hkN rfl
            have hnC : ¬ (3 : Int64) = (Int32.ofNat w27.length).toInt64 := own_nC 3 hi64 hkn rfl
            -- pc 96: BucketWindow.advance
            obtain ⟨cq66, kq66, qa66, qb66, qc66⟩ := isOf hZ rfl ex24_0
            obtain ⟨_, _, ⟨T66, L66, k66, n66⟩, -, X66, ⟨Lc66, hQ66, l66, y66, z66⟩, st66⟩ := X24.virtualBack hx (y := (⟨"com/example/eschborn/eschborn/engine/BucketWindow", "advance", "(J)V"⟩ : MethodName)) (z := (⟨"com/example/eschborn/eschborn/engine/BucketWindow", "advance", "(J)V"⟩ : MethodName)) hown (mvT hZ (hw _ (List.mem_of_getElem? (i := 60) rfl))) (mvT hZ (hw _ (List.mem_of_getElem? (i := 61) rfl))) (notFace_of_selects (args := #[]) (mvT hZ (hw _ (List.mem_of_getElem? (i := 63) rfl)))) (mvT hZ (hw _ (List.mem_of_getElem? (i := 63) rfl))) (mvT hZ (hw _ (List.mem_of_getElem? (i := 62) rfl))) (by decide) (backOf (W := 0) (rm8_C3 l Z a0 hw [] b7 v4 (1 : Int64) (v1.toInt64) b10_0 w21 w22 w23 w26 w27 T24.heap n0 zp24 ex24_0 fa24_0 fa24_1 fa24_2 fa24_3 fa24_4 fa24_5 fa24_6 g_b7 fa24_7 g_b10_0 hm (by decide) hz hpC hnC hHS) hZ (hw _ (List.mem_of_getElem? (i := 64) rfl)) (hw _ (List.mem_of_getElem? (i := 4) rfl)) (by decide) (by decide)) qa66 qc66 (g := (mkF m 96 #[.val (.long p1), .second, .val (.int p2), .val (.int p3), .val (.long p4), .second, .val (.long p5), .second, .val (.long p6), .second, .val (.int v1), .val (.int v2), .val (.long v3), .second, .val (.long v4), .second, .val (.long v6), .second, .val (.ref b7), .unset, .unset, .unset, .unset] [(.long v4), (.ref b7)])) rfl (by rw [hml]; rfl) (Steps.refl _) (argsL := [(.long v4)]) (rest := []) (lenOf own_pd7 rfl) rfl (by show 2 * 0 + _ ≤ _; exact Nat.le_of_eq rfl) (hb hby at_96) (fun _ _ => ⟨rfl, rfl, (by decide : 0 + 1 + 1 + 0 + 1 + 0 + 0 + 0 ≤ _), (by decide : 0 + 7 + 6 + 0 + 8 + 0 + 0 + 0 ≤ _)⟩)
            dsimp only [Pt.U, Pt.locs, Pt.cells, Pt.slots] at X66 l66 y66 z66 st66 hQ66
            subst l66 y66 z66
            obtain ⟨rfl, N66q, K66, ex66_0, fa66_0, fa66_1, fa66_2, fa66_3, fa66_4, fa66_5, fa66_6, fa66_7⟩ := hQ66
            have N66 := Fr.app N24 N66q
            have kk66 : Keep h0 T66.heap [] := kk24.trans K66 (allS (Or.inr sz_b7) (allS (Or.inr sz_b10_0) all0))
            have zp66 : n0 ≤ T66.heap.size := Nat.le_trans Z0 kk66.1
            generalize hw67 : (own_adC3_newest (1 : Int64) w21) = w67 at fa66_3
            generalize hw68 : (own_adC3_newestNumber w22) = w68 at fa66_4
            generalize hw69 : (own_adC3_newestSlot w23 w27) = w69 at fa66_5
            generalize hw70 : (own_adC3_load w23 w26 w27) = w70 at fa66_6
            generalize hw71 : (own_adC3_ts w23 w27) = w71 at fa66_7
            refine own_go (fun tgt cont => st66.trans cont) ?_
            show own_Go p e below s (Q0 n0) room_1.cells room_1.slots (T66.setTop (mkF m 99 #[.val (.long p1), .second, .val (.int p2), .val (.int p3), .val (.long p4), .second, .val (.long p5), .second, .val (.long p6), .second, .val (.int v1), .val (.int v2), .val (.long v3), .second, .val (.long v4), .second, .val (.long v6), .second, .val (.ref b7), .unset, .unset, .unset, .unset] []))
            exact KP _ _ _ w67 w68 w70 w69 w71 (own_wide X66 (by decide) (by decide)) rfl N66 kk66 ex66_0 fa66_0 fa66_1 fa66_2 fa66_3 fa66_5 fa66_6 fa66_4 fa66_7 (by rw [← hw68, ← hw69, ← hw71, hk]; exact own_P1C3 F1.2.1 F1.2.2 TT hN4 hkn hT)
  by_cases hc72 : ((p2 >>> ((3 : Int32) &&& 31)) &&& (1 : Int32)) = 0
  ·
    refine own_go (B := s₁.setTop (mkF m 52 #[.val (.long p1), .second, .val (.int p2), .val (.int p3), .val (.long p4), .second, .val (.long p5), .second, .val (.long p6), .second, .val (.int v1), .val (.int v2), .val (.long v3), .second, .val (.long v4), .second, .unset, .unset, .unset, .unset, .unset, .unset, .unset] [(.long (v4 + ((p6 &&& (15 : Int64)) - (4 : Int64))))])) (fun tgt cont => ?_) ?_
    · refine XS.ifNo X0.here hx rfl (hb hby at_31) rfl (XT.i0_ne_f hc72) ?_
      refine XS.lload X0.here hx rfl (hb hby at_34) rfl ?_
      refine XS.lload X0.here hx rfl (hb hby at_36) rfl ?_
      refine Stand.ldc2J X0 hx hown (mvT hZ (hw _ (List.mem_of_getElem? (i := 0) rfl))) rfl (hb hby at_38) ?_
      refine XS.land X0.here hx rfl (hb hby at_41) rfl ?_
      refine Stand.ldc2J X0 hx hown (mvT hZ (hw _ (List.mem_of_getElem? (i := 1) rfl))) rfl (hb hby at_42) ?_
      refine XS.lsub X0.here hx rfl (hb hby at_45) rfl ?_
      refine XS.ladd X0.here hx rfl (hb hby at_46) rfl ?_
      refine XS.goto X0.here hx rfl (pc0 := 47) (pc' := 52) rfl (hb hby at_47) (by decide) (by decide) ?_
      exact cont
    exact K5 (v4 + ((p6 &&& (15 : Int64)) - (4 : Int64))) (by simp only [if_pos hc72])
  ·
    refine own_go (B := s₁.setTop (mkF m 52 #[.val (.long p1), .second, .val (.int p2), .val (.int p3), .val (.long p4), .second, .val (.long p5), .second, .val (.long p6), .second, .val (.int v1), .val (.int v2), .val (.long v3), .second, .val (.long v4), .second, .unset, .unset, .unset, .unset, .unset, .unset, .unset] [(.long p6)])) (fun tgt cont => ?_) ?_
    · refine XS.ifYes X0.here hx rfl (pc0 := 31) (pc' := 50) rfl (hb hby at_31) rfl (XT.i0_ne_t hc72) (by decide) (by decide) ?_
      refine XS.lload X0.here hx rfl (hb hby at_50) rfl ?_
      exact cont
    exact K5 p6 (by simp only [if_neg hc72])
set_option maxRecDepth 65536 in
set_option maxHeartbeats 40000000 in
theorem comes_1 {Post : Tables → Env → Array Value → State → Outcome → State → Prop} (hpost : ∀ tb e args s v u, (limb_1_1.after args s (.returned v) u = true ∧ limb_1_2.after args s (.returned v) u = true ∧ True) → FrameEnd s (.returned v) u (Jvm.fieldLocs frame_1_writes args s ++ Jvm.arrayLocs frame_1_arrays args s ++ Jvm.staticLocs frame_1_statics s) 16 128 → Post tb e args s (.returned v) u) :
    ArmFor flags0 classFile x code maxLocals ret World_1 tables_1 room_1 Calls_1 rest_1 Pre_1 Post := by
  intro l hfl _ _ p e ha hc hk s m args below hf hA hF happ hP
  obtain ⟨hcalls, hrest, hpre⟩ := hP
  obtain ⟨-, -, -, hnamed, -, -, -, hat⟩ := (Spec.applies_iff hf).mp happ
  obtain ⟨hg, hn⟩ := and_e (Cond.before_iff.mp (show (Jvm.Cond.and given_1 narrow_1).before args s = true from hpre))
  obtain ⟨g0, gr0⟩ := and_e hg
  obtain ⟨ga0, gr1⟩ := and_e gr0
  obtain ⟨ga1, gr2⟩ := and_e gr1
  obtain ⟨ga2, gr3⟩ := and_e gr2
  obtain ⟨ga3, gr4⟩ := and_e gr3
  obtain ⟨ga4, gr5⟩ := and_e gr4
  obtain ⟨w0, w1, w2, w3, w4, w5, rfl⟩ : ∃ w0 w1 w2 w3 w4 w5 : Value, args = #[w0, w1, w2, w3, w4, w5] := by
    have hs : args.size = 6 := by simpa [Cond.value, given_1] using g0
    obtain ⟨L⟩ := args
    match L, hs with
    | [w0, w1, w2, w3, w4, w5], _ => exact ⟨w0, w1, w2, w3, w4, w5, rfl⟩
  have hw := fun d (hd : d ∈ tables_1) => atoms_spec (ws := Jvm.Cond.code x code maxLocals ret :: tables_1) hat d (List.mem_cons_of_mem _ hd)
  obtain ⟨i0, ei0⟩ := isL_v ga0
  obtain rfl : w0 = (.long i0) := Option.some.inj ei0
  obtain ⟨i1, ei1⟩ := is_v ga1
  obtain rfl : w1 = (.int i1) := Option.some.inj ei1
  obtain ⟨i2, ei2⟩ := is_v ga2
  obtain rfl : w2 = (.int i2) := Option.some.inj ei2
  obtain ⟨i3, ei3⟩ := isL_v ga3
  obtain rfl : w3 = (.long i3) := Option.some.inj ei3
  obtain ⟨i4, ei4⟩ := isL_v ga4
  obtain rfl : w4 = (.long i4) := Option.some.inj ei4
  obtain ⟨i5, ei5⟩ := isL_v gr5
  obtain rfl : w5 = (.long i5) := Option.some.inj ei5
  obtain ⟨n, o, h1, h2, h3, _, L, rfl, ⟨rfl, N⟩, hq⟩ := rm0 l s _ hw tables_1 i0 i1 i2 i3 i4 i5 s.heap s.heap.size (Nat.le_refl _) p e ha hc hk s m _ below hf ((Spec.applies_iff_loose hf).mp happ).1 ⟨rfl, State.Warmed39.refl s, rfl⟩ trivial
  refine ⟨n, _, h1, h2, h3, hpost _ _ _ _ _ _ ⟨Cond.after_iff.mpr rfl, Cond.after_iff.mpr (eq_i res_at (Term.int_eval (1)) rfl), trivial⟩ ⟨hq.1, hq.2.1, (hq.2.2.sift fun y hy => Or.inr (N y hy)).mono (by decide) (by decide)⟩⟩
theorem main_1_1 : Claimed_1_1 := comes_1 fun _ _ _ _ _ _ h hF => ⟨h.1, hF⟩
theorem main_1_2 : Claimed_1_2 := comes_1 fun _ _ _ _ _ _ h hF => ⟨h.2.1, hF⟩
end Jvm.Pilot.@@N@@
namespace Jvm.Pilot.@@N@@
open Jvm Jvm.ClassFile Sem Op Lib Jvm.Free Jvm.Stand Jvm.Pilot.@@N@@.Jvm.D
/-! MADE BY PROGRAM (witnessworld.py) out of the Statement's table words and the real class files: 21 classes; the members and pool entries that the words name. The judged class is class 1, her method 1. -/
namespace start1
open Jvm.ClassFile
def u (s : String) : CpInfo := .utf8 (stringToUtf16 s)
/-- a pool by its gaps: so many unusable entries, then the entry; so many at the end -/
def gap : Nat → List CpInfo → List CpInfo
  | 0, r => r
  | n + 1, r => .unusable :: gap n r
def poolList (es : List (Nat × CpInfo)) (last : Nat) : List CpInfo := es.foldr (fun e r => gap e.1 (e.2 :: r)) (gap last [])
def pool (es : List (Nat × CpInfo)) (last : Nat) : Array CpInfo := ⟨poolList es last⟩
def fileOf (pool : Array CpInfo) (this : Nat) (attrs : Array Attribute := #[]) (ms : Array MethodInfo := #[]) (fl : Nat := 33) (sup : Nat := 0) (ifs : Array Nat := #[]) (fds : Array FieldInfo := #[]) : ClassFile where
  minorVersion := 0
  majorVersion := 65
  constantPool := pool
  accessFlags := fl
  thisClass := this
  superClass := sup
  interfaces := ifs
  fields := fds
  methods := ms
  attributes := attrs
def plain (name : String) (sup : Option ClassId) : Class where
  name := name
  kind := .ordinary
  loader := none
  accessFlags := 33
  super := sup
  interfaces := #[]
  cf := none
  fields := #[]
  methods := #[]
  instanceTypes := #[]
  staticTypes := #[]
  resolved := #[]
  callSites := []
  init := .initialized
  statics := none
  mirror := none

def pool0 : Array CpInfo := pool [(5, u "<init>"), (0, u "()V"), (1, .class_ 10), (1, u "java/lang/Object")] 113

def k0c0 : Code := { maxStack := 0, maxLocals := 1, code := object_method_1_code, exceptionTable := #[], attributes := #[] }
def k0m0 : Method := { name := "<init>", desc := "()V", sig := { parameters := [], returnType := none }, accessFlags := 1, code := some k0c0 }
/-- java/lang/Object -/
def k0 : Class := { plain "java/lang/Object" none with
  accessFlags := 33
  interfaces := #[]
  cf := some (fileOf pool0 8 #[] #[{ accessFlags := 1, nameIndex := 5, descriptorIndex := 6, attributes := #[] }] 33 0 #[] #[])
  fields := #[]
  methods := #[k0m0]
  instanceTypes := #[]
  staticTypes := #[]
  resolved := Array.replicate 124 none
  statics := none }

def pool1 : Array CpInfo := pool [(2, .class_ 4), (1, u "java/lang/Object"), (0, u "<init>"), (0, u "()V"), (0, .long 15), (1, .long 4), (1, .class_ 12), (0, u "com/example/eschborn/eschborn/engine/BucketWindow"), (0, .class_ 14), (0, u "com/example/eschborn/eschborn/engine/LoadRule"), (0, .methodref 13 16), (0, .nameAndType 5 17), (0, u "(JJJJJJ)V"), (0, .methodref 11 19), (0, .nameAndType 5 20), (0, u "(Lcom/example/eschborn/eschborn/engine/LoadRule;)V"), (0, .methodref 11 22), (0, .nameAndType 23 24), (0, u "advance"), (0, u "(J)V"), (0, .methodref 11 26), (0, .nameAndType 27 24), (0, u "add"), (0, .methodref 11 29), (0, .nameAndType 30 31), (0, u "leavingAt"), (0, u "(J)J"), (0, .class_ 33), (0, u "com/example/eschborn/eschborn/engine/BucketWindowLeavingAtPinLaw"), (2, u "law"), (0, u "(JIIJJJ)Z")] 3

def k1m0 : Method := { name := "<init>", desc := "()V", sig := { parameters := [], returnType := none }, accessFlags := 1, code := none }
def k1c1 : Code := { maxStack := 16, maxLocals := 23, code := code, exceptionTable := #[], attributes := #[] }
def k1m1 : Method := { name := "law", desc := "(JIIJJJ)Z", sig := { parameters := [.long, .int, .int, .long, .long, .long], returnType := some .boolean }, accessFlags := 9, code := some k1c1 }
/-- com/example/eschborn/eschborn/engine/BucketWindowLeavingAtPinLaw -/
def k1 : Class := { plain "com/example/eschborn/eschborn/engine/BucketWindowLeavingAtPinLaw" (some 0) with
  accessFlags := 49
  interfaces := #[]
  cf := some (fileOf pool1 32 #[] #[{ accessFlags := 1, nameIndex := 5, descriptorIndex := 6, attributes := #[] }, { accessFlags := 9, nameIndex := 36, descriptorIndex := 37, attributes := #[] }] 49 2 #[] #[])
  fields := #[]
  methods := #[k1m0, k1m1]
  instanceTypes := #[]
  staticTypes := #[]
  resolved := Array.replicate 41 none
  statics := none }

def pool2 : Array CpInfo := pool [(1, .methodref 2 3), (0, .class_ 4), (0, .nameAndType 5 6), (0, u "java/lang/Object"), (0, u "<init>"), (0, u "()V"), (0, .methodref 8 9), (0, .class_ 10), (0, .nameAndType 11 12), (0, u "com/example/eschborn/eschborn/engine/LoadRule"), (0, u "bucket"), (0, u "()J"), (0, .fieldref 14 15), (0, .class_ 16), (0, .nameAndType 11 17), (0, u "com/example/eschborn/eschborn/engine/BucketWindow"), (0, u "J"), (0, .methodref 8 19), (0, .nameAndType 20 12), (0, u "window"), (0, .fieldref 14 22), (0, .nameAndType 20 17), (0, .methodref 8 24), (0, .nameAndType 25 26), (0, u "buckets"), (0, u "()I"), (0, .fieldref 14 28), (0, .nameAndType 29 30), (0, u "totals"), (0, u "[J"), (0, .fieldref 14 32), (0, .nameAndType 33 17), (0, u "newest"), (0, .methodref 35 36), (0, .class_ 37), (0, .nameAndType 38 39), (0, u "java/lang/Long"), (0, u "compareUnsigned"), (0, u "(JJ)I"), (0, .methodref 14 41), (0, .nameAndType 42 43), (0, u "moveOn"), (0, u "(J)V"), (0, .methodref 14 45), (0, .nameAndType 46 47), (0, u "passed"), (0, u "(J)J"), (0, .fieldref 14 49), (0, .nameAndType 50 17), (0, u "load"), (0, .methodref 14 52), (0, .nameAndType 53 43), (0, u "restart"), (0, .methodref 55 56), (0, .class_ 57), (0, .nameAndType 58 59), (0, u "java/util/Arrays"), (0, u "fill"), (0, u "([JJ)V"), (0, .fieldref 14 61), (0, .nameAndType 62 63), (0, u "newestSlot"), (0, u "I"), (0, .methodref 14 65), (0, .nameAndType 66 67), (0, u "after"), (0, u "(I)I"), (0, .fieldref 14 69), (0, .nameAndType 70 17), (0, u "newestNumber"), (0, .methodref 72 73), (0, .class_ 74), (0, .nameAndType 75 76), (0, u "com/example/eschborn/eschborn/engine/EpochNanos"), (0, u "floor"), (0, u "(JJ)J"), (0, .methodref 78 79), (0, .class_ 80), (0, .nameAndType 81 76), (0, u "java/lang/Math"), (0, u "floorDiv"), (0, .methodref 78 83), (0, .nameAndType 84 85), (0, u "floorMod"), (0, u "(JI)I"), (0, u "(Lcom/example/eschborn/eschborn/engine/LoadRule;)V"), (2, u "advance"), (1, u "add"), (3, u "leavingAt")] 3

def k2c0 : Code := { maxStack := 3, maxLocals := 2, code := prog_1_method_1_code, exceptionTable := #[], attributes := #[] }
def k2m0 : Method := { name := "<init>", desc := "(Lcom/example/eschborn/eschborn/engine/LoadRule;)V", sig := { parameters := [(.object "com/example/eschborn/eschborn/engine/LoadRule")], returnType := none }, accessFlags := 0, code := some k2c0 }
def k2c1 : Code := { maxStack := 4, maxLocals := 3, code := prog_1_method_2_code, exceptionTable := #[], attributes := #[] }
def k2m1 : Method := { name := "advance", desc := "(J)V", sig := { parameters := [.long], returnType := none }, accessFlags := 0, code := some k2c1 }
def k2c2 : Code := { maxStack := 7, maxLocals := 7, code := prog_1_method_3_code, exceptionTable := #[], attributes := #[] }
def k2m2 : Method := { name := "moveOn", desc := "(J)V", sig := { parameters := [.long], returnType := none }, accessFlags := 2, code := some k2c2 }
def k2c3 : Code := { maxStack := 6, maxLocals := 3, code := prog_1_method_4_code, exceptionTable := #[], attributes := #[] }
def k2m3 : Method := { name := "add", desc := "(J)V", sig := { parameters := [.long], returnType := none }, accessFlags := 0, code := some k2c3 }
def k2c4 : Code := { maxStack := 4, maxLocals := 8, code := prog_1_method_9_code, exceptionTable := #[], attributes := #[] }
def k2m4 : Method := { name := "leavingAt", desc := "(J)J", sig := { parameters := [.long], returnType := some .long }, accessFlags := 0, code := some k2c4 }
def k2c5 : Code := { maxStack := 4, maxLocals := 7, code := prog_1_method_10_code, exceptionTable := #[], attributes := #[] }
def k2m5 : Method := { name := "passed", desc := "(J)J", sig := { parameters := [.long], returnType := some .long }, accessFlags := 2, code := some k2c5 }
def k2c6 : Code := { maxStack := 5, maxLocals := 3, code := prog_1_method_11_code, exceptionTable := #[], attributes := #[] }
def k2m6 : Method := { name := "restart", desc := "(J)V", sig := { parameters := [.long], returnType := none }, accessFlags := 2, code := some k2c6 }
def k2c7 : Code := { maxStack := 2, maxLocals := 2, code := prog_1_method_12_code, exceptionTable := #[], attributes := #[] }
def k2m7 : Method := { name := "after", desc := "(I)I", sig := { parameters := [.int], returnType := some .int }, accessFlags := 2, code := some k2c7 }
/-- com/example/eschborn/eschborn/engine/BucketWindow -/
def k2 : Class := { plain "com/example/eschborn/eschborn/engine/BucketWindow" (some 0) with
  accessFlags := 32
  interfaces := #[]
  cf := some (fileOf pool2 14 #[] #[{ accessFlags := 0, nameIndex := 5, descriptorIndex := 86, attributes := #[] }, { accessFlags := 0, nameIndex := 89, descriptorIndex := 43, attributes := #[] }, { accessFlags := 2, nameIndex := 42, descriptorIndex := 43, attributes := #[] }, { accessFlags := 0, nameIndex := 91, descriptorIndex := 43, attributes := #[] }, { accessFlags := 0, nameIndex := 95, descriptorIndex := 47, attributes := #[] }, { accessFlags := 2, nameIndex := 46, descriptorIndex := 47, attributes := #[] }, { accessFlags := 2, nameIndex := 53, descriptorIndex := 43, attributes := #[] }, { accessFlags := 2, nameIndex := 66, descriptorIndex := 67, attributes := #[] }] 32 2 #[] #[{ accessFlags := 18, nameIndex := 11, descriptorIndex := 17, attributes := #[] }, { accessFlags := 18, nameIndex := 20, descriptorIndex := 17, attributes := #[] }, { accessFlags := 18, nameIndex := 29, descriptorIndex := 30, attributes := #[] }, { accessFlags := 2, nameIndex := 33, descriptorIndex := 17, attributes := #[] }, { accessFlags := 2, nameIndex := 70, descriptorIndex := 17, attributes := #[] }, { accessFlags := 2, nameIndex := 62, descriptorIndex := 63, attributes := #[] }, { accessFlags := 2, nameIndex := 50, descriptorIndex := 17, attributes := #[] }])
  fields := #[{ name := "bucket", type := .long, accessFlags := 18, slot := 0, constantValue := 0 }, { name := "window", type := .long, accessFlags := 18, slot := 1, constantValue := 0 }, { name := "totals", type := (.array .long), accessFlags := 18, slot := 2, constantValue := 0 }, { name := "newest", type := .long, accessFlags := 2, slot := 3, constantValue := 0 }, { name := "newestNumber", type := .long, accessFlags := 2, slot := 4, constantValue := 0 }, { name := "newestSlot", type := .int, accessFlags := 2, slot := 5, constantValue := 0 }, { name := "load", type := .long, accessFlags := 2, slot := 6, constantValue := 0 }]
  methods := #[k2m0, k2m1, k2m2, k2m3, k2m4, k2m5, k2m6, k2m7]
  instanceTypes := #[.long, .long, (.array .long), .long, .long, .int, .long]
  staticTypes := #[]
  resolved := Array.replicate 99 none
  statics := none }

def pool3 : Array CpInfo := pool [(1, .methodref 2 3), (0, .class_ 4), (0, .nameAndType 5 6), (0, u "java/lang/Object"), (0, u "<init>"), (0, u "()V"), (0, .class_ 8), (0, u "java/lang/Record")] 13

def k3c0 : Code := { maxStack := 1, maxLocals := 1, code := jdk_30_method_1_code, exceptionTable := #[], attributes := #[] }
def k3m0 : Method := { name := "<init>", desc := "()V", sig := { parameters := [], returnType := none }, accessFlags := 4, code := some k3c0 }
/-- java/lang/Record -/
def k3 : Class := { plain "java/lang/Record" (some 0) with
  accessFlags := 1057
  interfaces := #[]
  cf := some (fileOf pool3 7 #[] #[{ accessFlags := 4, nameIndex := 5, descriptorIndex := 6, attributes := #[] }] 1057 2 #[] #[])
  fields := #[]
  methods := #[k3m0]
  instanceTypes := #[]
  staticTypes := #[]
  resolved := Array.replicate 22 none
  statics := none }

def pool4 : Array CpInfo := pool [(1, .methodref 2 3), (0, .class_ 4), (0, .nameAndType 5 6), (0, u "java/lang/Record"), (0, u "<init>"), (0, u "()V"), (11, .class_ 19), (0, u "com/example/eschborn/eschborn/engine/LoadRule"), (0, .long 1000000), (16, .long 9223372036854775807), (1, .long 2), (3, .fieldref 18 44), (0, .nameAndType 45 46), (0, u "window"), (0, u "J"), (0, .fieldref 18 48), (0, .nameAndType 49 46), (0, u "bucket"), (0, .fieldref 18 51), (0, .nameAndType 52 46), (0, u "l1"), (0, .fieldref 18 54), (0, .nameAndType 55 46), (0, u "l2"), (0, .fieldref 18 57), (0, .nameAndType 58 46), (0, u "tolerance"), (0, .fieldref 18 60), (0, .nameAndType 61 46), (0, u "cooldown"), (12, u "MAX_BUCKETS"), (0, u "I"), (2, u "(JJJJJJ)V"), (4, u "buckets"), (0, u "()I"), (1, u "()J")] 41

def k4c0 : Code := { maxStack := 6, maxLocals := 13, code := prog_10_method_1_code, exceptionTable := #[], attributes := #[] }
def k4m0 : Method := { name := "<init>", desc := "(JJJJJJ)V", sig := { parameters := [.long, .long, .long, .long, .long, .long], returnType := none }, accessFlags := 1, code := some k4c0 }
def k4c1 : Code := { maxStack := 4, maxLocals := 1, code := prog_10_method_2_code, exceptionTable := #[], attributes := #[] }
def k4m1 : Method := { name := "buckets", desc := "()I", sig := { parameters := [], returnType := some .int }, accessFlags := 1, code := some k4c1 }
def k4c2 : Code := { maxStack := 2, maxLocals := 1, code := prog_10_method_7_code, exceptionTable := #[], attributes := #[] }
def k4m2 : Method := { name := "window", desc := "()J", sig := { parameters := [], returnType := some .long }, accessFlags := 1, code := some k4c2 }
def k4c3 : Code := { maxStack := 2, maxLocals := 1, code := prog_10_method_8_code, exceptionTable := #[], attributes := #[] }
def k4m3 : Method := { name := "bucket", desc := "()J", sig := { parameters := [], returnType := some .long }, accessFlags := 1, code := some k4c3 }
/-- com/example/eschborn/eschborn/engine/LoadRule -/
def k4 : Class := { plain "com/example/eschborn/eschborn/engine/LoadRule" (some 3) with
  accessFlags := 49
  interfaces := #[]
  cf := some (fileOf pool4 18 #[] #[{ accessFlags := 1, nameIndex := 5, descriptorIndex := 78, attributes := #[] }, { accessFlags := 1, nameIndex := 83, descriptorIndex := 84, attributes := #[] }, { accessFlags := 1, nameIndex := 45, descriptorIndex := 86, attributes := #[] }, { accessFlags := 1, nameIndex := 49, descriptorIndex := 86, attributes := #[] }] 49 2 #[] #[{ accessFlags := 18, nameIndex := 45, descriptorIndex := 46, attributes := #[] }, { accessFlags := 18, nameIndex := 49, descriptorIndex := 46, attributes := #[] }, { accessFlags := 18, nameIndex := 52, descriptorIndex := 46, attributes := #[] }, { accessFlags := 18, nameIndex := 55, descriptorIndex := 46, attributes := #[] }, { accessFlags := 18, nameIndex := 58, descriptorIndex := 46, attributes := #[] }, { accessFlags := 18, nameIndex := 61, descriptorIndex := 46, attributes := #[] }, { accessFlags := 26, nameIndex := 74, descriptorIndex := 75, attributes := #[] }])
  fields := #[{ name := "window", type := .long, accessFlags := 18, slot := 0, constantValue := 0 }, { name := "bucket", type := .long, accessFlags := 18, slot := 1, constantValue := 0 }, { name := "l1", type := .long, accessFlags := 18, slot := 2, constantValue := 0 }, { name := "l2", type := .long, accessFlags := 18, slot := 3, constantValue := 0 }, { name := "tolerance", type := .long, accessFlags := 18, slot := 4, constantValue := 0 }, { name := "cooldown", type := .long, accessFlags := 18, slot := 5, constantValue := 0 }, { name := "MAX_BUCKETS", type := .int, accessFlags := 26, slot := 0, constantValue := 0 }]
  methods := #[k4m0, k4m1, k4m2, k4m3]
  instanceTypes := #[.long, .long, .long, .long, .long, .long]
  staticTypes := #[.int]
  resolved := Array.replicate 128 none
  statics := none }

def pool5 : Array CpInfo := pool [(1, .class_ 2), (0, u "java/io/Serializable"), (0, .class_ 4), (0, u "java/lang/Object")] 2

/-- java/io/Serializable -/
def k5 : Class := { plain "java/io/Serializable" (some 0) with
  accessFlags := 1537
  interfaces := #[]
  cf := some (fileOf pool5 1 #[] #[] 1537 3 #[] #[])
  fields := #[]
  methods := #[]
  instanceTypes := #[]
  staticTypes := #[]
  resolved := Array.replicate 7 none
  statics := none }

def pool6 : Array CpInfo := pool [(2, .class_ 4), (1, u "java/lang/Object"), (0, u "<init>"), (0, u "()V"), (1, .class_ 10), (1, u "java/lang/Number"), (2, .class_ 14), (0, u "java/io/Serializable"), (0, u "serialVersionUID"), (0, u "J")] 20

def k6m0 : Method := { name := "<init>", desc := "()V", sig := { parameters := [], returnType := none }, accessFlags := 1, code := none }
/-- java/lang/Number -/
def k6 : Class := { plain "java/lang/Number" (some 0) with
  accessFlags := 1057
  interfaces := #[5]
  cf := some (fileOf pool6 8 #[] #[{ accessFlags := 1, nameIndex := 5, descriptorIndex := 6, attributes := #[] }] 1057 2 #[13] #[{ accessFlags := 26, nameIndex := 15, descriptorIndex := 16, attributes := #[] }])
  fields := #[{ name := "serialVersionUID", type := .long, accessFlags := 26, slot := 0, constantValue := 0 }]
  methods := #[k6m0]
  instanceTypes := #[]
  staticTypes := #[.long]
  resolved := Array.replicate 37 none
  statics := none }

def pool7 : Array CpInfo := pool [(1, .class_ 2), (0, u "java/lang/Comparable"), (0, .class_ 4), (0, u "java/lang/Object")] 7

/-- java/lang/Comparable -/
def k7 : Class := { plain "java/lang/Comparable" (some 0) with
  accessFlags := 1537
  interfaces := #[]
  cf := some (fileOf pool7 1 #[] #[] 1537 3 #[] #[])
  fields := #[]
  methods := #[]
  instanceTypes := #[]
  staticTypes := #[]
  resolved := Array.replicate 12 none
  statics := none }

def pool8 : Array CpInfo := pool [(1, .class_ 2), (0, u "java/lang/constant/Constable"), (0, .class_ 4), (0, u "java/lang/Object")] 6

/-- java/lang/constant/Constable -/
def k8 : Class := { plain "java/lang/constant/Constable" (some 0) with
  accessFlags := 1537
  interfaces := #[]
  cf := some (fileOf pool8 1 #[] #[] 1537 3 #[] #[])
  fields := #[]
  methods := #[]
  instanceTypes := #[]
  staticTypes := #[]
  resolved := Array.replicate 11 none
  statics := none }

def pool9 : Array CpInfo := pool [(1, .class_ 2), (0, u "java/lang/constant/ConstantDesc"), (0, .class_ 4), (0, u "java/lang/Object")] 32

/-- java/lang/constant/ConstantDesc -/
def k9 : Class := { plain "java/lang/constant/ConstantDesc" (some 0) with
  accessFlags := 1537
  interfaces := #[]
  cf := some (fileOf pool9 1 #[] #[] 1537 3 #[] #[])
  fields := #[]
  methods := #[]
  instanceTypes := #[]
  staticTypes := #[]
  resolved := Array.replicate 37 none
  statics := none }

def pool10 : Array CpInfo := pool [(1, .class_ 2), (0, u "java/lang/Long"), (165, .long 9223372036854775808), (66, .class_ 237), (1, u "java/lang/Long$LongCache"), (33, .class_ 272), (0, u "java/lang/Number"), (2, u "value"), (0, u "J"), (25, .methodref 1 303), (0, .nameAndType 304 305), (0, u "compare"), (0, u "(JJ)I"), (55, u "TYPE"), (0, u "Ljava/lang/Class;"), (0, .class_ 364), (0, u "java/lang/Comparable"), (0, .class_ 366), (0, u "java/lang/constant/Constable"), (0, .class_ 368), (0, u "java/lang/constant/ConstantDesc"), (0, u "MIN_VALUE"), (1, u "MAX_VALUE"), (4, u "SIZE"), (0, u "I"), (1, u "BYTES"), (1, u "serialVersionUID"), (87, u "compareUnsigned")] 54

def k10c0 : Code := { maxStack := 4, maxLocals := 4, code := jdk_35_method_42_code, exceptionTable := #[], attributes := #[] }
def k10m0 : Method := { name := "compare", desc := "(JJ)I", sig := { parameters := [.long, .long], returnType := some .int }, accessFlags := 9, code := some k10c0 }
def k10c1 : Code := { maxStack := 6, maxLocals := 4, code := jdk_35_method_43_code, exceptionTable := #[], attributes := #[] }
def k10m1 : Method := { name := "compareUnsigned", desc := "(JJ)I", sig := { parameters := [.long, .long], returnType := some .int }, accessFlags := 9, code := some k10c1 }
/-- java/lang/Long -/
def k10 : Class := { plain "java/lang/Long" (some 6) with
  accessFlags := 49
  interfaces := #[7, 8, 9]
  cf := some (fileOf pool10 1 #[.nestMembers #[235]] #[{ accessFlags := 9, nameIndex := 304, descriptorIndex := 305, attributes := #[] }, { accessFlags := 9, nameIndex := 469, descriptorIndex := 305, attributes := #[] }] 49 271 #[363, 365, 367] #[{ accessFlags := 25, nameIndex := 369, descriptorIndex := 276, attributes := #[] }, { accessFlags := 25, nameIndex := 371, descriptorIndex := 276, attributes := #[] }, { accessFlags := 25, nameIndex := 361, descriptorIndex := 362, attributes := #[] }, { accessFlags := 18, nameIndex := 275, descriptorIndex := 276, attributes := #[] }, { accessFlags := 25, nameIndex := 376, descriptorIndex := 377, attributes := #[] }, { accessFlags := 25, nameIndex := 379, descriptorIndex := 377, attributes := #[] }, { accessFlags := 26, nameIndex := 381, descriptorIndex := 276, attributes := #[] }])
  fields := #[{ name := "MIN_VALUE", type := .long, accessFlags := 25, slot := 0, constantValue := 0 }, { name := "MAX_VALUE", type := .long, accessFlags := 25, slot := 1, constantValue := 0 }, { name := "TYPE", type := (.object "java/lang/Class"), accessFlags := 25, slot := 2, constantValue := 0 }, { name := "value", type := .long, accessFlags := 18, slot := 0, constantValue := 0 }, { name := "SIZE", type := .int, accessFlags := 25, slot := 3, constantValue := 0 }, { name := "BYTES", type := .int, accessFlags := 25, slot := 4, constantValue := 0 }, { name := "serialVersionUID", type := .long, accessFlags := 26, slot := 5, constantValue := 0 }]
  methods := #[k10m0, k10m1]
  instanceTypes := #[.long]
  staticTypes := #[.long, .long, (.object "java/lang/Class"), .int, .int, .long]
  resolved := Array.replicate 524 none
  statics := none }

def pool11 : Array CpInfo := pool [(2, .class_ 4), (1, u "java/lang/Object"), (0, u "<init>"), (0, u "()V"), (7, .class_ 16), (1, u "java/util/Arrays"), (57, .class_ 76), (1, u "java/util/Arrays$NaturalOrder"), (36, .class_ 115), (1, u "java/util/Arrays$LegacyMergeSort"), (1, u "Z"), (257, .class_ 376), (0, u "java/util/Arrays$ArrayList"), (68, u "$assertionsDisabled"), (269, u "MIN_ARRAY_SORT_GRAN"), (0, u "I"), (2, u "INSERTIONSORT_THRESHOLD"), (120, u "fill"), (0, u "([JJ)V"), (133, .class_ 976), (0, u "java/util/Arrays$ArrayItr")] 52

def k11m0 : Method := { name := "<init>", desc := "()V", sig := { parameters := [], returnType := none }, accessFlags := 2, code := none }
def k11c1 : Code := { maxStack := 4, maxLocals := 5, code := jdk_65_method_101_code, exceptionTable := #[], attributes := #[] }
def k11m1 : Method := { name := "fill", desc := "([JJ)V", sig := { parameters := [(.array .long), .long], returnType := none }, accessFlags := 9, code := some k11c1 }
/-- java/util/Arrays -/
def k11 : Class := { plain "java/util/Arrays" (some 0) with
  accessFlags := 49
  interfaces := #[]
  cf := some (fileOf pool11 14 #[.nestMembers #[975, 375, 113, 74]] #[{ accessFlags := 2, nameIndex := 5, descriptorIndex := 6, attributes := #[] }, { accessFlags := 9, nameIndex := 840, descriptorIndex := 841, attributes := #[] }] 49 2 #[] #[{ accessFlags := 26, nameIndex := 715, descriptorIndex := 716, attributes := #[] }, { accessFlags := 26, nameIndex := 719, descriptorIndex := 716, attributes := #[] }, { accessFlags := 4120, nameIndex := 445, descriptorIndex := 117, attributes := #[] }])
  fields := #[{ name := "MIN_ARRAY_SORT_GRAN", type := .int, accessFlags := 26, slot := 0, constantValue := 0 }, { name := "INSERTIONSORT_THRESHOLD", type := .int, accessFlags := 26, slot := 1, constantValue := 0 }, { name := "$assertionsDisabled", type := .boolean, accessFlags := 4120, slot := 2, constantValue := 0 }]
  methods := #[k11m0, k11m1]
  instanceTypes := #[]
  staticTypes := #[.int, .int, .boolean]
  resolved := Array.replicate 1029 none
  statics := none }

def pool12 : Array CpInfo := pool [(2, .class_ 4), (1, u "java/lang/Object"), (0, u "<init>"), (0, u "()V"), (1, .class_ 10), (1, u "com/example/eschborn/eschborn/engine/EpochNanos"), (0, u "MIN"), (0, u "Ljava/time/Instant;"), (8, u "MAX"), (35, .methodref 58 59), (0, .class_ 60), (0, .nameAndType 61 62), (0, u "java/lang/Math"), (0, u "floorMod"), (0, u "(JJ)J"), (2, .long 9223372036854775808), (10, u "PER_SECOND"), (0, u "J"), (6, u "floor")] 22

def k12m0 : Method := { name := "<init>", desc := "()V", sig := { parameters := [], returnType := none }, accessFlags := 2, code := none }
def k12c1 : Code := { maxStack := 6, maxLocals := 6, code := prog_8_method_4_code, exceptionTable := #[], attributes := #[] }
def k12m1 : Method := { name := "floor", desc := "(JJ)J", sig := { parameters := [.long, .long], returnType := some .long }, accessFlags := 9, code := some k12c1 }
/-- com/example/eschborn/eschborn/engine/EpochNanos -/
def k12 : Class := { plain "com/example/eschborn/eschborn/engine/EpochNanos" (some 0) with
  accessFlags := 49
  interfaces := #[]
  cf := some (fileOf pool12 8 #[] #[{ accessFlags := 2, nameIndex := 5, descriptorIndex := 6, attributes := #[] }, { accessFlags := 9, nameIndex := 84, descriptorIndex := 62, attributes := #[] }] 49 2 #[] #[{ accessFlags := 25, nameIndex := 76, descriptorIndex := 77, attributes := #[] }, { accessFlags := 25, nameIndex := 11, descriptorIndex := 12, attributes := #[] }, { accessFlags := 25, nameIndex := 21, descriptorIndex := 12, attributes := #[] }])
  fields := #[{ name := "PER_SECOND", type := .long, accessFlags := 25, slot := 0, constantValue := 0 }, { name := "MIN", type := (.object "java/time/Instant"), accessFlags := 25, slot := 1, constantValue := 0 }, { name := "MAX", type := (.object "java/time/Instant"), accessFlags := 25, slot := 2, constantValue := 0 }]
  methods := #[k12m0, k12m1]
  instanceTypes := #[]
  staticTypes := #[.long, (.object "java/time/Instant"), (.object "java/time/Instant")]
  resolved := Array.replicate 107 none
  statics := none }

def pool13 : Array CpInfo := pool [(1, .class_ 2), (0, u "java/lang/Math"), (1, .class_ 6), (1, u "java/lang/Object"), (0, u "<init>"), (0, u "()V"), (89, .class_ 100), (1, u "java/lang/Math$RandomNumberGeneratorHolder"), (20, u "(JJ)J"), (23, u "floorDiv"), (0, .methodref 1 147), (0, .nameAndType 148 121), (0, u "floorMod"), (23, u "negativeZeroFloatBits"), (0, u "J"), (2, u "negativeZeroDoubleBits"), (68, u "$assertionsDisabled"), (0, u "Z"), (91, u "twoToTheDoubleScaleDown"), (0, u "D"), (4, u "twoToTheDoubleScaleUp"), (9, u "E"), (3, u "PI"), (2, u "TAU"), (2, u "DEGREES_TO_RADIANS"), (0, u "RADIANS_TO_DEGREES"), (54, u "(JI)I")] 39

def k13m0 : Method := { name := "<init>", desc := "()V", sig := { parameters := [], returnType := none }, accessFlags := 2, code := none }
def k13c1 : Code := { maxStack := 4, maxLocals := 6, code := jdk_29_method_49_code, exceptionTable := #[], attributes := #[] }
def k13m1 : Method := { name := "floorDiv", desc := "(JJ)J", sig := { parameters := [.long, .long], returnType := some .long }, accessFlags := 9, code := some k13c1 }
def k13c2 : Code := { maxStack := 4, maxLocals := 3, code := jdk_29_method_51_code, exceptionTable := #[], attributes := #[] }
def k13m2 : Method := { name := "floorMod", desc := "(JI)I", sig := { parameters := [.long, .int], returnType := some .int }, accessFlags := 9, code := some k13c2 }
def k13c3 : Code := { maxStack := 4, maxLocals := 6, code := jdk_29_method_52_code, exceptionTable := #[], attributes := #[] }
def k13m3 : Method := { name := "floorMod", desc := "(JJ)J", sig := { parameters := [.long, .long], returnType := some .long }, accessFlags := 9, code := some k13c3 }
/-- java/lang/Math -/
def k13 : Class := { plain "java/lang/Math" (some 0) with
  accessFlags := 49
  interfaces := #[]
  cf := some (fileOf pool13 1 #[.nestMembers #[98]] #[{ accessFlags := 2, nameIndex := 7, descriptorIndex := 8, attributes := #[] }, { accessFlags := 9, nameIndex := 145, descriptorIndex := 121, attributes := #[] }, { accessFlags := 9, nameIndex := 148, descriptorIndex := 420, attributes := #[] }, { accessFlags := 9, nameIndex := 148, descriptorIndex := 121, attributes := #[] }] 49 4 #[] #[{ accessFlags := 25, nameIndex := 354, descriptorIndex := 339, attributes := #[] }, { accessFlags := 25, nameIndex := 358, descriptorIndex := 339, attributes := #[] }, { accessFlags := 25, nameIndex := 361, descriptorIndex := 339, attributes := #[] }, { accessFlags := 26, nameIndex := 364, descriptorIndex := 339, attributes := #[] }, { accessFlags := 26, nameIndex := 365, descriptorIndex := 339, attributes := #[] }, { accessFlags := 26, nameIndex := 172, descriptorIndex := 173, attributes := #[] }, { accessFlags := 26, nameIndex := 176, descriptorIndex := 173, attributes := #[] }, { accessFlags := 8, nameIndex := 344, descriptorIndex := 339, attributes := #[] }, { accessFlags := 8, nameIndex := 338, descriptorIndex := 339, attributes := #[] }, { accessFlags := 4120, nameIndex := 245, descriptorIndex := 246, attributes := #[] }])
  fields := #[{ name := "E", type := .double, accessFlags := 25, slot := 0, constantValue := 0 }, { name := "PI", type := .double, accessFlags := 25, slot := 1, constantValue := 0 }, { name := "TAU", type := .double, accessFlags := 25, slot := 2, constantValue := 0 }, { name := "DEGREES_TO_RADIANS", type := .double, accessFlags := 26, slot := 3, constantValue := 0 }, { name := "RADIANS_TO_DEGREES", type := .double, accessFlags := 26, slot := 4, constantValue := 0 }, { name := "negativeZeroFloatBits", type := .long, accessFlags := 26, slot := 5, constantValue := 0 }, { name := "negativeZeroDoubleBits", type := .long, accessFlags := 26, slot := 6, constantValue := 0 }, { name := "twoToTheDoubleScaleUp", type := .double, accessFlags := 8, slot := 7, constantValue := 0 }, { name := "twoToTheDoubleScaleDown", type := .double, accessFlags := 8, slot := 8, constantValue := 0 }, { name := "$assertionsDisabled", type := .boolean, accessFlags := 4120, slot := 9, constantValue := 0 }]
  methods := #[k13m0, k13m1, k13m2, k13m3]
  instanceTypes := #[]
  staticTypes := #[.double, .double, .double, .double, .double, .long, .long, .double, .double, .boolean]
  resolved := Array.replicate 460 none
  statics := none }

def pool14 : Array CpInfo := pool [(1, u "java/lang/Cloneable"), (0, .class_ 1), (0, u "java/lang/Object"), (0, .class_ 3)] 3

/-- java/lang/Cloneable -/
def k14 : Class := { plain "java/lang/Cloneable" (some 0) with
  accessFlags := 1537
  interfaces := #[]
  cf := some (fileOf pool14 2 #[] #[] 1537 4 #[] #[])
  fields := #[]
  methods := #[]
  instanceTypes := #[]
  staticTypes := #[]
  resolved := Array.replicate 8 none
  statics := none }

/-- the primitive byte -/
def k15 : Class := { plain "byte" none with kind := .primitive 'B', accessFlags := 0x411 }
/-- [B -/
def k16 : Class := { plain "[B" (some 0) with kind := .array 15 .byte, interfaces := #[14, 5], accessFlags := 1041 }

/-- the primitive int -/
def k17 : Class := { plain "int" none with kind := .primitive 'I', accessFlags := 0x411 }
/-- [I -/
def k18 : Class := { plain "[I" (some 0) with kind := .array 17 .int, interfaces := #[14, 5], accessFlags := 1041 }

/-- the primitive long -/
def k19 : Class := { plain "long" none with kind := .primitive 'J', accessFlags := 0x411 }
/-- [J -/
def k20 : Class := { plain "[J" (some 0) with kind := .array 19 .long, interfaces := #[14, 5], accessFlags := 1041 }

def heap : Heap := #[]
def classes : Array Class := #[k0, k1, k2, k3, k4, k5, k6, k7, k8, k9, k10, k11, k12, k13, k14, k15, k16, k17, k18, k19, k20]
def interned : List (Array UInt16 × Addr) := []
def slotsUsed : Nat := 0
def theMethod : MethodId := ⟨1, 1⟩
def args0 : Array Value := #[.long 5, .int 6, .int 7, .long 8, .long 9, .long 10]
def aboutOver (below : List Frame) : State where
  vm := { classes := classes, interned := interned.toArray }
  heap := heap
  slotsUsed := slotsUsed
  threads := #[{ frames := .invoking theMethod args0 :: below }]
def below0 : List Frame := [.native { method := ⟨0, 0⟩, args := #[] }]
def about1 : State := aboutOver below0
def p0 : Program := .bare "" "" ""
def e0 : Env := launch0.env 0 0 0
theorem w_frames : about1.frames = Frame.invoking theMethod args0 :: below0 := rfl
set_option maxRecDepth 65536 in
theorem w_args : argsFit about1.vm theMethod args0 = true := by decide +kernel
set_option maxRecDepth 65536 in
theorem w_heap : heapFits about1 = true := by decide +kernel
set_option maxRecDepth 65536 in
theorem w_runnable : about1.curStatus? = some .runnable := by decide +kernel
set_option maxRecDepth 65536 in
theorem w_alone : about1.alone = true := by decide +kernel
set_option maxRecDepth 65536 in
theorem w_named : about1.methodNamed? x = some theMethod := by decide +kernel
set_option maxRecDepth 65536 in
theorem w_hears : about1.hears theMethod below0 = true := by decide +kernel
set_option maxRecDepth 65536 in
theorem w_ripe : about1.ripe theMethod args0 below0 = true := by decide +kernel
theorem w_running : about1.status = .running := rfl
set_option maxRecDepth 65536 in
theorem w_room : about1.hasRoom e0.platform room_1 = true :=
  launch0.hasRoom_least _ room_1 (by decide +kernel) (by decide +kernel) (by decide +kernel) (by decide +kernel) (by decide +kernel) (by decide +kernel)
theorem allAtoms_all (ts : List Jvm.Cond) (a : Array Jvm.Value) (st : Jvm.State) : (allAtoms ts).before a st = ts.all (fun c => c.before a st) := by
  induction ts with
  | nil => rfl
  | cons c t ih =>
    show (Jvm.Cond.and c (allAtoms t)).before a st = _
    rw [Jvm.Cond.before_and, ih, List.all_cons]
def words1 : List Jvm.Cond := Jvm.Cond.code x code maxLocals ret :: tables_1
/-- a 'code' word, met by the world's own term for the bytes: nothing is compared byte by byte -/
theorem code_word {y : MethodName} {bytes : ByteArray} {mx : Nat} {rt : Option FieldType} {a : Array Value} {s : State} {m : MethodId} {meth : Method} {c : Code} (h1 : s.methodNamed? y = some m) (h2 : s.vm.method? m = some meth) (h3 : meth.code = some c) (h4 : c.code = bytes)
    (h5 : (c.maxLocals == mx && c.exceptionTable.isEmpty && decide (c.maxStack ≤ mostOperands) && decide (meth.sig.returnType = rt) && !meth.locks && decide (parseMethodDescriptor y.desc = some meth.sig)) = true) : (Jvm.Cond.code y bytes mx rt).before a s = true := by
  simp only [Bool.and_eq_true, beq_iff_eq, Bool.not_eq_true', decide_eq_true_eq] at h5
  obtain ⟨⟨⟨⟨⟨g1, g2⟩, g3⟩, g4⟩, g5⟩, g6⟩ := h5
  simp [Cond.before, Cond.holds, Cond.value, h1, h2, h3, h4, g1, g2, g3, g4, g5, g6]
def isCode : Jvm.Cond → Bool
  | .code _ _ _ _ => true
  | _ => false
theorem all_split {L : List Jvm.Cond} {P : Jvm.Cond → Bool} (h1 : L.all (fun c => isCode c || P c) = true) (h2 : ∀ c ∈ L.filter isCode, P c = true) : L.all P = true := by
  refine List.all_eq_true.mpr fun c hc => ?_
  have h := List.all_eq_true.mp h1 c hc
  rcases Bool.eq_false_or_eq_true (isCode c) with hi | hi
  · exact h2 c (List.mem_filter.mpr ⟨hc, hi⟩)
  · simpa [hi] using h
set_option maxRecDepth 65536 in
theorem w_c0 : (Jvm.Cond.code x code maxLocals ret).before args0 about1 = true := code_word (m := ⟨1, 1⟩) (meth := k1m1) (c := k1c1) (by decide +kernel) rfl rfl rfl (by decide +kernel)
set_option maxRecDepth 65536 in
theorem w_c1 : (Jvm.Cond.code ({ cls := "com/example/eschborn/eschborn/engine/LoadRule", name := "<init>", desc := "(JJJJJJ)V" } : Jvm.MethodName) prog_10_method_1_code (13 : Nat) (Option.none : Option Jvm.ClassFile.FieldType)).before args0 about1 = true := code_word (m := ⟨4, 0⟩) (meth := k4m0) (c := k4c0) (by decide +kernel) rfl rfl rfl (by decide +kernel)
set_option maxRecDepth 65536 in
theorem w_c2 : (Jvm.Cond.code ({ cls := "java/lang/Record", name := "<init>", desc := "()V" } : Jvm.MethodName) jdk_30_method_1_code (1 : Nat) (Option.none : Option Jvm.ClassFile.FieldType)).before args0 about1 = true := code_word (m := ⟨3, 0⟩) (meth := k3m0) (c := k3c0) (by decide +kernel) rfl rfl rfl (by decide +kernel)
set_option maxRecDepth 65536 in
theorem w_c3 : (Jvm.Cond.code ({ cls := "java/lang/Object", name := "<init>", desc := "()V" } : Jvm.MethodName) object_method_1_code (1 : Nat) (Option.none : Option Jvm.ClassFile.FieldType)).before args0 about1 = true := code_word (m := ⟨0, 0⟩) (meth := k0m0) (c := k0c0) (by decide +kernel) rfl rfl rfl (by decide +kernel)
set_option maxRecDepth 65536 in
theorem w_c4 : (Jvm.Cond.code ({ cls := "com/example/eschborn/eschborn/engine/BucketWindow", name := "<init>", desc := "(Lcom/example/eschborn/eschborn/engine/LoadRule;)V" } : Jvm.MethodName) prog_1_method_1_code (2 : Nat) (Option.none : Option Jvm.ClassFile.FieldType)).before args0 about1 = true := code_word (m := ⟨2, 0⟩) (meth := k2m0) (c := k2c0) (by decide +kernel) rfl rfl rfl (by decide +kernel)
set_option maxRecDepth 65536 in
theorem w_c5 : (Jvm.Cond.code ({ cls := "com/example/eschborn/eschborn/engine/LoadRule", name := "bucket", desc := "()J" } : Jvm.MethodName) prog_10_method_8_code (1 : Nat) (Option.some Jvm.ClassFile.FieldType.long)).before args0 about1 = true := code_word (m := ⟨4, 3⟩) (meth := k4m3) (c := k4c3) (by decide +kernel) rfl rfl rfl (by decide +kernel)
set_option maxRecDepth 65536 in
theorem w_c6 : (Jvm.Cond.code ({ cls := "com/example/eschborn/eschborn/engine/LoadRule", name := "window", desc := "()J" } : Jvm.MethodName) prog_10_method_7_code (1 : Nat) (Option.some Jvm.ClassFile.FieldType.long)).before args0 about1 = true := code_word (m := ⟨4, 2⟩) (meth := k4m2) (c := k4c2) (by decide +kernel) rfl rfl rfl (by decide +kernel)
set_option maxRecDepth 65536 in
theorem w_c7 : (Jvm.Cond.code ({ cls := "com/example/eschborn/eschborn/engine/LoadRule", name := "buckets", desc := "()I" } : Jvm.MethodName) prog_10_method_2_code (1 : Nat) (Option.some Jvm.ClassFile.FieldType.int)).before args0 about1 = true := code_word (m := ⟨4, 1⟩) (meth := k4m1) (c := k4c1) (by decide +kernel) rfl rfl rfl (by decide +kernel)
set_option maxRecDepth 65536 in
theorem w_c8 : (Jvm.Cond.code ({ cls := "com/example/eschborn/eschborn/engine/BucketWindow", name := "advance", desc := "(J)V" } : Jvm.MethodName) prog_1_method_2_code (3 : Nat) (Option.none : Option Jvm.ClassFile.FieldType)).before args0 about1 = true := code_word (m := ⟨2, 1⟩) (meth := k2m1) (c := k2c1) (by decide +kernel) rfl rfl rfl (by decide +kernel)
set_option maxRecDepth 65536 in
theorem w_c9 : (Jvm.Cond.code ({ cls := "java/lang/Long", name := "compareUnsigned", desc := "(JJ)I" } : Jvm.MethodName) jdk_35_method_43_code (4 : Nat) (Option.some Jvm.ClassFile.FieldType.int)).before args0 about1 = true := code_word (m := ⟨10, 1⟩) (meth := k10m1) (c := k10c1) (by decide +kernel) rfl rfl rfl (by decide +kernel)
set_option maxRecDepth 65536 in
theorem w_c10 : (Jvm.Cond.code ({ cls := "java/lang/Long", name := "compare", desc := "(JJ)I" } : Jvm.MethodName) jdk_35_method_42_code (4 : Nat) (Option.some Jvm.ClassFile.FieldType.int)).before args0 about1 = true := code_word (m := ⟨10, 0⟩) (meth := k10m0) (c := k10c0) (by decide +kernel) rfl rfl rfl (by decide +kernel)
set_option maxRecDepth 65536 in
theorem w_c11 : (Jvm.Cond.code ({ cls := "com/example/eschborn/eschborn/engine/BucketWindow", name := "add", desc := "(J)V" } : Jvm.MethodName) prog_1_method_4_code (3 : Nat) (Option.none : Option Jvm.ClassFile.FieldType)).before args0 about1 = true := code_word (m := ⟨2, 3⟩) (meth := k2m3) (c := k2c3) (by decide +kernel) rfl rfl rfl (by decide +kernel)
set_option maxRecDepth 65536 in
theorem w_c12 : (Jvm.Cond.code ({ cls := "com/example/eschborn/eschborn/engine/BucketWindow", name := "moveOn", desc := "(J)V" } : Jvm.MethodName) prog_1_method_3_code (7 : Nat) (Option.none : Option Jvm.ClassFile.FieldType)).before args0 about1 = true := code_word (m := ⟨2, 2⟩) (meth := k2m2) (c := k2c2) (by decide +kernel) rfl rfl rfl (by decide +kernel)
set_option maxRecDepth 65536 in
theorem w_c13 : (Jvm.Cond.code ({ cls := "com/example/eschborn/eschborn/engine/BucketWindow", name := "passed", desc := "(J)J" } : Jvm.MethodName) prog_1_method_10_code (7 : Nat) (Option.some Jvm.ClassFile.FieldType.long)).before args0 about1 = true := code_word (m := ⟨2, 5⟩) (meth := k2m5) (c := k2c5) (by decide +kernel) rfl rfl rfl (by decide +kernel)
set_option maxRecDepth 65536 in
theorem w_c14 : (Jvm.Cond.code ({ cls := "java/util/Arrays", name := "fill", desc := "([JJ)V" } : Jvm.MethodName) jdk_65_method_101_code (5 : Nat) (Option.none : Option Jvm.ClassFile.FieldType)).before args0 about1 = true := code_word (m := ⟨11, 1⟩) (meth := k11m1) (c := k11c1) (by decide +kernel) rfl rfl rfl (by decide +kernel)
set_option maxRecDepth 65536 in
theorem w_c15 : (Jvm.Cond.code ({ cls := "com/example/eschborn/eschborn/engine/BucketWindow", name := "restart", desc := "(J)V" } : Jvm.MethodName) prog_1_method_11_code (3 : Nat) (Option.none : Option Jvm.ClassFile.FieldType)).before args0 about1 = true := code_word (m := ⟨2, 6⟩) (meth := k2m6) (c := k2c6) (by decide +kernel) rfl rfl rfl (by decide +kernel)
set_option maxRecDepth 65536 in
theorem w_c16 : (Jvm.Cond.code ({ cls := "com/example/eschborn/eschborn/engine/EpochNanos", name := "floor", desc := "(JJ)J" } : Jvm.MethodName) prog_8_method_4_code (6 : Nat) (Option.some Jvm.ClassFile.FieldType.long)).before args0 about1 = true := code_word (m := ⟨12, 1⟩) (meth := k12m1) (c := k12c1) (by decide +kernel) rfl rfl rfl (by decide +kernel)
set_option maxRecDepth 65536 in
theorem w_c17 : (Jvm.Cond.code ({ cls := "java/lang/Math", name := "floorMod", desc := "(JJ)J" } : Jvm.MethodName) jdk_29_method_52_code (6 : Nat) (Option.some Jvm.ClassFile.FieldType.long)).before args0 about1 = true := code_word (m := ⟨13, 3⟩) (meth := k13m3) (c := k13c3) (by decide +kernel) rfl rfl rfl (by decide +kernel)
set_option maxRecDepth 65536 in
theorem w_c18 : (Jvm.Cond.code ({ cls := "java/lang/Math", name := "floorDiv", desc := "(JJ)J" } : Jvm.MethodName) jdk_29_method_49_code (6 : Nat) (Option.some Jvm.ClassFile.FieldType.long)).before args0 about1 = true := code_word (m := ⟨13, 1⟩) (meth := k13m1) (c := k13c1) (by decide +kernel) rfl rfl rfl (by decide +kernel)
set_option maxRecDepth 65536 in
theorem w_c19 : (Jvm.Cond.code ({ cls := "java/lang/Math", name := "floorMod", desc := "(JI)I" } : Jvm.MethodName) jdk_29_method_51_code (3 : Nat) (Option.some Jvm.ClassFile.FieldType.int)).before args0 about1 = true := code_word (m := ⟨13, 2⟩) (meth := k13m2) (c := k13c2) (by decide +kernel) rfl rfl rfl (by decide +kernel)
set_option maxRecDepth 65536 in
theorem w_c20 : (Jvm.Cond.code ({ cls := "com/example/eschborn/eschborn/engine/BucketWindow", name := "leavingAt", desc := "(J)J" } : Jvm.MethodName) prog_1_method_9_code (8 : Nat) (Option.some Jvm.ClassFile.FieldType.long)).before args0 about1 = true := code_word (m := ⟨2, 4⟩) (meth := k2m4) (c := k2c4) (by decide +kernel) rfl rfl rfl (by decide +kernel)
set_option maxRecDepth 65536 in
theorem w_c21 : (Jvm.Cond.code ({ cls := "com/example/eschborn/eschborn/engine/BucketWindow", name := "after", desc := "(I)I" } : Jvm.MethodName) prog_1_method_12_code (2 : Nat) (Option.some Jvm.ClassFile.FieldType.int)).before args0 about1 = true := code_word (m := ⟨2, 7⟩) (meth := k2m7) (c := k2c7) (by decide +kernel) rfl rfl rfl (by decide +kernel)
def codes1 : List Jvm.Cond := [Jvm.Cond.code x code maxLocals ret, Jvm.Cond.code ({ cls := "com/example/eschborn/eschborn/engine/LoadRule", name := "<init>", desc := "(JJJJJJ)V" } : Jvm.MethodName) prog_10_method_1_code (13 : Nat) (Option.none : Option Jvm.ClassFile.FieldType), Jvm.Cond.code ({ cls := "java/lang/Record", name := "<init>", desc := "()V" } : Jvm.MethodName) jdk_30_method_1_code (1 : Nat) (Option.none : Option Jvm.ClassFile.FieldType), Jvm.Cond.code ({ cls := "java/lang/Object", name := "<init>", desc := "()V" } : Jvm.MethodName) object_method_1_code (1 : Nat) (Option.none : Option Jvm.ClassFile.FieldType), Jvm.Cond.code ({ cls := "com/example/eschborn/eschborn/engine/BucketWindow", name := "<init>", desc := "(Lcom/example/eschborn/eschborn/engine/LoadRule;)V" } : Jvm.MethodName) prog_1_method_1_code (2 : Nat) (Option.none : Option Jvm.ClassFile.FieldType), Jvm.Cond.code ({ cls := "com/example/eschborn/eschborn/engine/LoadRule", name := "bucket", desc := "()J" } : Jvm.MethodName) prog_10_method_8_code (1 : Nat) (Option.some Jvm.ClassFile.FieldType.long), Jvm.Cond.code ({ cls := "com/example/eschborn/eschborn/engine/LoadRule", name := "window", desc := "()J" } : Jvm.MethodName) prog_10_method_7_code (1 : Nat) (Option.some Jvm.ClassFile.FieldType.long), Jvm.Cond.code ({ cls := "com/example/eschborn/eschborn/engine/LoadRule", name := "buckets", desc := "()I" } : Jvm.MethodName) prog_10_method_2_code (1 : Nat) (Option.some Jvm.ClassFile.FieldType.int), Jvm.Cond.code ({ cls := "com/example/eschborn/eschborn/engine/BucketWindow", name := "advance", desc := "(J)V" } : Jvm.MethodName) prog_1_method_2_code (3 : Nat) (Option.none : Option Jvm.ClassFile.FieldType), Jvm.Cond.code ({ cls := "java/lang/Long", name := "compareUnsigned", desc := "(JJ)I" } : Jvm.MethodName) jdk_35_method_43_code (4 : Nat) (Option.some Jvm.ClassFile.FieldType.int), Jvm.Cond.code ({ cls := "java/lang/Long", name := "compare", desc := "(JJ)I" } : Jvm.MethodName) jdk_35_method_42_code (4 : Nat) (Option.some Jvm.ClassFile.FieldType.int), Jvm.Cond.code ({ cls := "com/example/eschborn/eschborn/engine/BucketWindow", name := "add", desc := "(J)V" } : Jvm.MethodName) prog_1_method_4_code (3 : Nat) (Option.none : Option Jvm.ClassFile.FieldType), Jvm.Cond.code ({ cls := "com/example/eschborn/eschborn/engine/BucketWindow", name := "moveOn", desc := "(J)V" } : Jvm.MethodName) prog_1_method_3_code (7 : Nat) (Option.none : Option Jvm.ClassFile.FieldType), Jvm.Cond.code ({ cls := "com/example/eschborn/eschborn/engine/BucketWindow", name := "passed", desc := "(J)J" } : Jvm.MethodName) prog_1_method_10_code (7 : Nat) (Option.some Jvm.ClassFile.FieldType.long), Jvm.Cond.code ({ cls := "java/util/Arrays", name := "fill", desc := "([JJ)V" } : Jvm.MethodName) jdk_65_method_101_code (5 : Nat) (Option.none : Option Jvm.ClassFile.FieldType), Jvm.Cond.code ({ cls := "com/example/eschborn/eschborn/engine/BucketWindow", name := "restart", desc := "(J)V" } : Jvm.MethodName) prog_1_method_11_code (3 : Nat) (Option.none : Option Jvm.ClassFile.FieldType), Jvm.Cond.code ({ cls := "com/example/eschborn/eschborn/engine/EpochNanos", name := "floor", desc := "(JJ)J" } : Jvm.MethodName) prog_8_method_4_code (6 : Nat) (Option.some Jvm.ClassFile.FieldType.long), Jvm.Cond.code ({ cls := "java/lang/Math", name := "floorMod", desc := "(JJ)J" } : Jvm.MethodName) jdk_29_method_52_code (6 : Nat) (Option.some Jvm.ClassFile.FieldType.long), Jvm.Cond.code ({ cls := "java/lang/Math", name := "floorDiv", desc := "(JJ)J" } : Jvm.MethodName) jdk_29_method_49_code (6 : Nat) (Option.some Jvm.ClassFile.FieldType.long), Jvm.Cond.code ({ cls := "java/lang/Math", name := "floorMod", desc := "(JI)I" } : Jvm.MethodName) jdk_29_method_51_code (3 : Nat) (Option.some Jvm.ClassFile.FieldType.int), Jvm.Cond.code ({ cls := "com/example/eschborn/eschborn/engine/BucketWindow", name := "leavingAt", desc := "(J)J" } : Jvm.MethodName) prog_1_method_9_code (8 : Nat) (Option.some Jvm.ClassFile.FieldType.long), Jvm.Cond.code ({ cls := "com/example/eschborn/eschborn/engine/BucketWindow", name := "after", desc := "(I)I" } : Jvm.MethodName) prog_1_method_12_code (2 : Nat) (Option.some Jvm.ClassFile.FieldType.int)]
set_option maxRecDepth 65536 in
theorem codes_eq : words1.filter isCode = codes1 := rfl
theorem w_codes : ∀ c ∈ words1.filter isCode, c.before args0 about1 = true := by
  rw [codes_eq]
  intro c hc
  simp only [codes1, List.mem_cons, List.not_mem_nil, or_false] at hc
  rcases hc with rfl | rfl | rfl | rfl | rfl | rfl | rfl | rfl | rfl | rfl | rfl | rfl | rfl | rfl | rfl | rfl | rfl | rfl | rfl | rfl | rfl | rfl
  · exact w_c0
  · exact w_c1
  · exact w_c2
  · exact w_c3
  · exact w_c4
  · exact w_c5
  · exact w_c6
  · exact w_c7
  · exact w_c8
  · exact w_c9
  · exact w_c10
  · exact w_c11
  · exact w_c12
  · exact w_c13
  · exact w_c14
  · exact w_c15
  · exact w_c16
  · exact w_c17
  · exact w_c18
  · exact w_c19
  · exact w_c20
  · exact w_c21
set_option maxRecDepth 65536 in
theorem w_t1 : (words1.take 24).all (fun c => isCode c || c.before args0 about1) = true := by decide +kernel
set_option maxRecDepth 65536 in
theorem w_t2 : ((words1.drop 24).take 24).all (fun c => isCode c || c.before args0 about1) = true := by decide +kernel
set_option maxRecDepth 65536 in
theorem w_t3 : (((words1.drop 24).drop 24).take 24).all (fun c => isCode c || c.before args0 about1) = true := by decide +kernel
set_option maxRecDepth 65536 in
theorem w_t4 : ((((words1.drop 24).drop 24).drop 24).take 24).all (fun c => isCode c || c.before args0 about1) = true := by decide +kernel
set_option maxRecDepth 65536 in
theorem w_t5 : (((((words1.drop 24).drop 24).drop 24).drop 24).take 24).all (fun c => isCode c || c.before args0 about1) = true := by decide +kernel
set_option maxRecDepth 65536 in
theorem w_t6 : (((((words1.drop 24).drop 24).drop 24).drop 24).drop 24).all (fun c => isCode c || c.before args0 about1) = true := by decide +kernel
theorem w_tables : (allAtoms (Jvm.Cond.code x code maxLocals ret :: tables_1)).before args0 about1 = true := by
  rw [allAtoms_all]
  show words1.all (fun c => c.before args0 about1) = true
  refine all_split ?_ w_codes
  rw [← List.take_append_drop 24 words1, List.all_append, w_t1, ← List.take_append_drop 24 (words1.drop 24), List.all_append, w_t2, ← List.take_append_drop 24 ((words1.drop 24).drop 24), List.all_append, w_t3, ← List.take_append_drop 24 (((words1.drop 24).drop 24).drop 24), List.all_append, w_t4, ← List.take_append_drop 24 ((((words1.drop 24).drop 24).drop 24).drop 24), List.all_append, w_t5, w_t6]
  rfl
set_option maxRecDepth 65536 in
theorem w_case : (Jvm.Cond.and given_1 narrow_1).before args0 about1 = true := by decide +kernel
theorem w_applies : (headSpec (Jvm.Cond.code x code maxLocals ret :: tables_1) room_1).applies x e0.platform about1 = true :=
  (Spec.applies_iff w_frames).mpr ⟨w_running, w_runnable, w_alone, w_named, w_hears, w_ripe, w_room, w_tables⟩
theorem atStart : AtStart classFile x code maxLocals ret World_1 tables_1 room_1 Calls_1 rest_1 Pre_1 launch0 p0 e0 about1 theMethod args0 below0 :=
  ⟨lists_1, trivial, launch0.admits_env _ _ _, launch0.least_env, fairChoices_fair.cas, fairChoices_fair.clock, w_frames, w_args, w_heap, w_applies, trivial, trivial, w_case⟩
end start1
theorem witness_1 : WitnessClaimed_1 := ⟨start1.p0, start1.e0, start1.about1, start1.theMethod, start1.args0, start1.below0, start1.atStart⟩
end Jvm.Pilot.@@N@@
