import JvmDerived
import JvmDerived.Pilot.@@N@@Statement
import JvmDerived.Pilot.@@N@@Code
set_option linter.unusedVariables false
set_option linter.unusedSimpArgs false
namespace Jvm.RoadKit
open Sem ClassFile Op Lib Jvm.Stand Jvm.Free Jvm.LawKit
section New
variable {p : Program} {l : Launch} {e : Env} {R : Room} {s : State} {m : MethodId} {args : Array Value} {below : List Frame} {meth : Method} {c : Code} {T : State} {locs : List Loc} {cells slots : Nat}
theorem retI (X : Stand p l e R s m args below meth c T locs cells slots) (hx : p.tables.exec = Jvm.exec) {pc : Nat} {Ls : Array Slot} {z : Int32} {rest : List Value} (hret : meth.sig.returnType = some .int) (hd : decode c.code pc = .ok (.ireturn, 1)) {fs : List Frame}
    (hl : ∀ (f : JFrame) (acts : List Action), f.method = m → f.locked = none → f.entered = [] → (doReturn e (T.setTop f) acts (some (.int z))).1 = T.setFrames fs) : Steps p.tables e below (T.setTop (mkF m pc Ls (.int z :: rest))) (T.setFrames fs) := by
  have hm' : T.vm.method? m = some meth := X.method'
  have hn : narrow .int (.int z) = .int z := rfl
  show Steps p.tables e below (T.setTop { method := m, pc := pc, locals := Ls, stack := _ :: rest, locked := none }) _
  jvm_step X.here [X.here.top, hx, hd, hm', hret, hn]
  first | (intro acts; rw [hl _ acts rfl rfl rfl]) | rw [hl _ _ rfl rfl rfl]
  exact Steps.refl _
end New
end Jvm.RoadKit
namespace Jvm.Pilot.@@N@@
open Jvm Jvm.ClassFile Sem Op Lib Jvm.Free Jvm.Stand Jvm.LawKit Jvm.RoadKit Bundle Jvm.Pilot.@@N@@.Jvm.D
/-- what a body that writes nothing leaves -/
def QR (r : Option Value) (h0 : Heap) (n0 : Nat) (v : Option Value) (h : Heap) (L : List Loc) : Prop := v = r ∧ Fr n0 L ∧ h = h0
theorem own_i2d {tb : Tables} [Ours tb] {e : Env} {below : List Frame} {T target : State} {m : MethodId} {c : Code} {g : JFrame} (h : At T m c below) (hx : tb.exec = Jvm.exec) (hg : g.method = m) {x : Int32} {rest : List Value} (hd : decode c.code g.pc = .ok (.i2d, 1)) (hs : g.stack = .int x :: rest)
    (hr : Steps tb e below (T.setTop { g with pc := g.pc + 1, stack := .double (FP.i2d x) :: rest }) target) : Steps tb e below (T.setTop g) target := by
  subst hg
  jvm_step h [h.top, hx, hd, hs]
  exact hr
theorem own_l2d {tb : Tables} [Ours tb] {e : Env} {below : List Frame} {T target : State} {m : MethodId} {c : Code} {g : JFrame} (h : At T m c below) (hx : tb.exec = Jvm.exec) (hg : g.method = m) {x : Int64} {rest : List Value} (hd : decode c.code g.pc = .ok (.l2d, 1)) (hs : g.stack = .long x :: rest)
    (hr : Steps tb e below (T.setTop { g with pc := g.pc + 1, stack := .double (FP.l2d x) :: rest }) target) : Steps tb e below (T.setTop g) target := by
  subst hg
  jvm_step h [h.top, hx, hd, hs]
  exact hr
theorem own_ddiv {tb : Tables} [Ours tb] {e : Env} {below : List Frame} {T target : State} {m : MethodId} {c : Code} {g : JFrame} (h : At T m c below) (hx : tb.exec = Jvm.exec) (hg : g.method = m) {x y : UInt64} {rest : List Value} (hd : decode c.code g.pc = .ok (.ddiv, 1)) (hs : g.stack = .double y :: .double x :: rest) (hn : FP.ddiv x y &&& 0x7fffffffffffffff ≤ 0x7ff0000000000000)
    (hr : Steps tb e below (T.setTop { g with pc := g.pc + 1, stack := .double (FP.ddiv x y) :: rest }) target) : Steps tb e below (T.setTop g) target := by
  subst hg
  jvm_step h [hx, hd, Op.ddiv.wp_number (e := e) (s := T) (f := g) h.top hs hn]
  exact hr
theorem own_dadd {tb : Tables} [Ours tb] {e : Env} {below : List Frame} {T target : State} {m : MethodId} {c : Code} {g : JFrame} (h : At T m c below) (hx : tb.exec = Jvm.exec) (hg : g.method = m) {x y : UInt64} {rest : List Value} (hd : decode c.code g.pc = .ok (.dadd, 1)) (hs : g.stack = .double y :: .double x :: rest) (hn : FP.dadd x y &&& 0x7fffffffffffffff ≤ 0x7ff0000000000000)
    (hr : Steps tb e below (T.setTop { g with pc := g.pc + 1, stack := .double (FP.dadd x y) :: rest }) target) : Steps tb e below (T.setTop g) target := by
  subst hg
  jvm_step h [hx, hd, Op.dadd.wp_number (e := e) (s := T) (f := g) h.top hs hn]
  exact hr
theorem own_dcmp {tb : Tables} [Ours tb] {e : Env} {below : List Frame} {T target : State} {m : MethodId} {c : Code} {g : JFrame} (h : At T m c below) (hx : tb.exec = Jvm.exec) (hg : g.method = m) {op : CmpOp} {x y : UInt64} {rest : List Value} (hd : decode c.code g.pc = .ok (.dcmp op, 1)) (hs : g.stack = .double y :: .double x :: rest) {k : Int32} (hk : cmpValue (FP.dcmp x y) op = k)
    (hr : Steps tb e below (T.setTop { g with pc := g.pc + 1, stack := .int k :: rest }) target) : Steps tb e below (T.setTop g) target := by
  subst hg; subst hk
  jvm_step h [h.top, hx, hd, hs]
  exact hr
theorem own_dloadN {tb : Tables} [Ours tb] {e : Env} {below : List Frame} {T target : State} {m : MethodId} {c : Code} {g : JFrame} (h : At T m c below) (hx : tb.exec = Jvm.exec) (hg : g.method = m) {k : Fin 4} {v : UInt64} (hd : decode c.code g.pc = .ok (.dload_n k, 1)) (hl : g.locals[k.val]? = some (.val (.double v)))
    (hr : Steps tb e below (T.setTop { g with pc := g.pc + 1, stack := .double v :: g.stack }) target) : Steps tb e below (T.setTop g) target := by
  subst hg
  jvm_step h [h.top, hx, hd, hl]
  exact hr
theorem own_dload {tb : Tables} [Ours tb] {e : Env} {below : List Frame} {T target : State} {m : MethodId} {c : Code} {g : JFrame} (h : At T m c below) (hx : tb.exec = Jvm.exec) (hg : g.method = m) {k : Nat} {v : UInt64} (hd : decode c.code g.pc = .ok (.dload k, 2)) (hl : g.locals[k]? = some (.val (.double v)))
    (hr : Steps tb e below (T.setTop { g with pc := g.pc + 2, stack := .double v :: g.stack }) target) : Steps tb e below (T.setTop g) target := by
  subst hg
  jvm_step h [h.top, hx, hd, hl]
  exact hr
theorem own_dstore {tb : Tables} [Ours tb] {e : Env} {below : List Frame} {T target : State} {m : MethodId} {c : Code} {g : JFrame} (h : At T m c below) (hx : tb.exec = Jvm.exec) (hg : g.method = m) {k : Nat} {x : UInt64} {rest : List Value} {l' : Array Slot} (hd : decode c.code g.pc = .ok (.dstore k, 2)) (hs : g.stack = .double x :: rest) (hl : storeLocals g.locals k (.double x) = some l')
    (hr : Steps tb e below (T.setTop { g with pc := g.pc + 2, stack := rest, locals := l' }) target) : Steps tb e below (T.setTop g) target := by
  subst hg
  jvm_step h [h.top, hx, hd, hs, hl]
  exact hr
theorem own_dconst0 {tb : Tables} [Ours tb] {e : Env} {below : List Frame} {T target : State} {m : MethodId} {c : Code} {g : JFrame} (h : At T m c below) (hx : tb.exec = Jvm.exec) (hg : g.method = m) (hd : decode c.code g.pc = .ok (.dconst 0, 1))
    (hr : Steps tb e below (T.setTop { g with pc := g.pc + 1, stack := .double FP.dconst0 :: g.stack }) target) : Steps tb e below (T.setTop g) target := by
  subst hg
  jvm_step h [h.top, hx, hd]
  exact hr
theorem own_dconst1 {tb : Tables} [Ours tb] {e : Env} {below : List Frame} {T target : State} {m : MethodId} {c : Code} {g : JFrame} (h : At T m c below) (hx : tb.exec = Jvm.exec) (hg : g.method = m) (hd : decode c.code g.pc = .ok (.dconst 1, 1))
    (hr : Steps tb e below (T.setTop { g with pc := g.pc + 1, stack := .double FP.dconst1 :: g.stack }) target) : Steps tb e below (T.setTop g) target := by
  subst hg
  jvm_step h [h.top, hx, hd]
  exact hr
theorem own_whole_pos {A : Nat} {d : Jvm.FP.Core.Datum} (hA : 0 < A) (h : Jvm.FP.Core.Whole (A : Int) d) : ∃ c q, d = .fin false c q ∧ 0 < c ∧ c * 2 ^ q.toNat = A * 2 ^ (-q).toNat := by
  cases d with
  | nan => exact h.elim
  | inf s => exact h.elim
  | fin s c q =>
    have h' : Jvm.FP.Core.signed s (c * 2 ^ q.toNat) = (A : Int) * ((2 ^ (-q).toNat : Nat) : Int) := h
    have hp : 0 < A * 2 ^ (-q).toNat := Nat.mul_pos hA (Nat.two_pow_pos _)
    have e1 : (A : Int) * ((2 ^ (-q).toNat : Nat) : Int) = ((A * 2 ^ (-q).toNat : Nat) : Int) := (Int.natCast_mul _ _).symm
    rw [e1] at h'
    obtain ⟨N, hN⟩ : ∃ N, N = A * 2 ^ (-q).toNat := ⟨_, rfl⟩
    rw [← hN] at h' hp
    cases s with
    | true =>
      exfalso
      simp only [Jvm.FP.Core.signed, if_true] at h'
      omega
    | false =>
      have h2 : c * 2 ^ q.toNat = N := by
        simp only [Jvm.FP.Core.signed, Bool.false_eq_true, if_false] at h'
        omega
      refine ⟨c, q, rfl, Nat.pos_of_ne_zero fun z => ?_, h2.trans hN⟩
      rw [z, Nat.zero_mul] at h2
      omega
theorem own_pow_cancel {X Y : Nat} {q r : Int} (h : X * 2 ^ (q.toNat + (-r).toNat) = Y * 2 ^ ((-q).toNat + r.toNat)) : X * 2 ^ (q - r).toNat = Y * 2 ^ (r - q).toNat := by
  have e1 : q.toNat + (-r).toNat = (q - r).toNat + min (q.toNat + (-r).toNat) ((-q).toNat + r.toNat) := by omega
  have e2 : (-q).toNat + r.toNat = (r - q).toNat + min (q.toNat + (-r).toNat) ((-q).toNat + r.toNat) := by omega
  generalize min (q.toNat + (-r).toNat) ((-q).toNat + r.toNat) = t at e1 e2
  rw [e1, e2, Nat.pow_add, Nat.pow_add, ← Nat.mul_assoc, ← Nat.mul_assoc] at h
  exact Nat.eq_of_mul_eq_mul_right (Nat.two_pow_pos t) h
/-- the quotient of two whole numbers, as one rounding -/
theorem own_ratio {A B : Nat} {a b : UInt64} (hA : 0 < A) (hB : 0 < B) (ha : Jvm.FP.Core.DInt (A : Int) a) (hb : Jvm.FP.Core.DInt (B : Int) b) : Jvm.FP.Core.val64 (FP.ddiv a b) = Jvm.FP.Core.roundRatio Jvm.FP.Core.b64 false A B 0 := by
  obtain ⟨c, q, e1, hc, h1⟩ := own_whole_pos hA ha
  obtain ⟨d, r, e2, hd, h2⟩ := own_whole_pos hB hb
  have e := Jvm.FP.Core.val64_ddiv a b
  rw [e1, e2] at e
  refine e.trans ?_
  have hd0 : d ≠ 0 := Nat.pos_iff_ne_zero.mp hd
  show (if d = 0 then (if c = 0 then Jvm.FP.Core.Datum.nan else .inf (false != false)) else Jvm.FP.Core.roundRatio Jvm.FP.Core.b64 (false != false) c d (q - r)) = _
  rw [if_neg hd0]
  refine Jvm.FP.Core.roundRatio_congr hd hB ?_
  have k : (c * B) * 2 ^ (q - r).toNat = (A * d) * 2 ^ (r - q).toNat := own_pow_cancel (by
    rw [Nat.pow_add, Nat.pow_add]
    calc c * B * (2 ^ q.toNat * 2 ^ (-r).toNat) = (c * 2 ^ q.toNat) * (B * 2 ^ (-r).toNat) := by ac_rfl
      _ = (A * 2 ^ (-q).toNat) * (d * 2 ^ r.toNat) := by rw [h1, h2]
      _ = A * d * (2 ^ (-q).toNat * 2 ^ r.toNat) := by ac_rfl)
  rw [show q - r - 0 = q - r by omega, show (0 : Int) - (q - r) = r - q by omega]
  exact k
theorem own_not_nan {v : UInt64} (h : Jvm.FP.Core.val64 v ≠ .nan) : v &&& 0x7fffffffffffffff ≤ 0x7ff0000000000000 := by
  have q := (Jvm.FP.Core.ne_nan v).mp h
  rw [UInt64.le_iff_toNat_le, UInt64.toNat_and]
  have e : v.toNat &&& (0x7fffffffffffffff : UInt64).toNat = v.toNat % 2 ^ 63 := Nat.and_two_pow_sub_one_eq_mod _ 63
  rw [e]
  exact q
theorem own_cmp {x y : UInt64} (nx : Jvm.FP.Core.val64 x ≠ .nan) (ny : Jvm.FP.Core.val64 y ≠ .nan) : FP.dcmp x y = some (compare (Jvm.FP.Core.zval Jvm.FP.Core.b64 (Jvm.FP.Core.val64 x)) (Jvm.FP.Core.zval Jvm.FP.Core.b64 (Jvm.FP.Core.val64 y))) :=
  Jvm.FP.Core.order_zval Jvm.FP.Core.good_b64 (Jvm.FP.Core.val64_fits _) (Jvm.FP.Core.val64_fits _) nx ny
theorem own_zval_ratio (A B : Nat) : Jvm.FP.Core.zval Jvm.FP.Core.b64 (Jvm.FP.Core.roundRatio Jvm.FP.Core.b64 false A B 0) = (Jvm.FP.Core.zmag Jvm.FP.Core.b64 (Jvm.FP.Core.roundRatio Jvm.FP.Core.b64 false A B 0) : Int) := by
  unfold Jvm.FP.Core.zval
  rw [Jvm.FP.Core.sgn_roundRatio]
  rfl
theorem own_zero : Jvm.FP.Core.zval Jvm.FP.Core.b64 (Jvm.FP.Core.val64 FP.dconst0) = 0 := by decide +kernel
theorem own_zero_nan : Jvm.FP.Core.val64 FP.dconst0 ≠ .nan := by decide +kernel
theorem own_dint_num {i : Int} {x : UInt64} (h : Jvm.FP.Core.DInt i x) : Jvm.FP.Core.val64 x ≠ .nan := fun e => by
  unfold Jvm.FP.Core.DInt at h
  rw [e] at h
  exact h
theorem own_d0 : Jvm.FP.Core.DInt 0 FP.dconst0 := by
  show Jvm.FP.Core.Whole 0 (Jvm.FP.Core.val64 FP.dconst0)
  have e : Jvm.FP.Core.val64 FP.dconst0 = .fin false 0 Jvm.FP.Core.b64.qmin := Jvm.FP.Core.val64_dconst0
  rw [e]
  simp [Jvm.FP.Core.Whole, Jvm.FP.Core.signed]
theorem own_dint_zero {x m : UInt64} {B : Nat} (hx : Jvm.FP.Core.DInt 0 x) (hB : 0 < B) (hm : Jvm.FP.Core.DInt (B : Int) m) : Jvm.FP.Core.val64 (FP.ddiv x m) ≠ .nan ∧ Jvm.FP.Core.zval Jvm.FP.Core.b64 (Jvm.FP.Core.val64 (FP.ddiv x m)) = 0 := by
  obtain ⟨d, r, e2, hd, h2⟩ := own_whole_pos hB hm
  obtain ⟨s, c, q, e1, hc⟩ : ∃ s c q, Jvm.FP.Core.val64 x = .fin s c q ∧ c = 0 := by
    have hx' : Jvm.FP.Core.Whole 0 (Jvm.FP.Core.val64 x) := hx
    generalize Jvm.FP.Core.val64 x = v at hx'
    cases v with
    | nan => exact hx'.elim
    | inf s => exact hx'.elim
    | fin s c q =>
      refine ⟨s, c, q, rfl, ?_⟩
      have h' : Jvm.FP.Core.signed s (c * 2 ^ q.toNat) = (0 : Int) * ((2 ^ (-q).toNat : Nat) : Int) := hx'
      rw [Int.zero_mul, Jvm.FP.Core.signed_eq_zero] at h'
      rcases Nat.mul_eq_zero.mp h' with z | z
      · exact z
      · exact absurd z (Nat.pos_iff_ne_zero.mp (Nat.two_pow_pos _))
  subst hc
  have e : Jvm.FP.Core.val64 (FP.ddiv x m) = .fin (s != false) 0 Jvm.FP.Core.b64.qmin := by
    have e := Jvm.FP.Core.val64_ddiv x m
    rw [e1, e2] at e
    refine e.trans ?_
    show (if d = 0 then _ else Jvm.FP.Core.roundRatio Jvm.FP.Core.b64 (s != false) 0 d (q - r)) = _
    rw [if_neg (Nat.pos_iff_ne_zero.mp hd)]
    rfl
  rw [e]
  refine ⟨(fun z => by cases z), ?_⟩
  show Jvm.FP.Core.signed (s != false) (Jvm.FP.Core.inUnits 0 _ _) = 0
  rw [Jvm.FP.Core.signed_eq_zero]
  simp [Jvm.FP.Core.inUnits]
theorem own_div_num {i : Int} {x m : UInt64} {B : Nat} (hx : Jvm.FP.Core.DInt i x) (hB : 0 < B) (hm : Jvm.FP.Core.DInt (B : Int) m) : Jvm.FP.Core.val64 (FP.ddiv x m) ≠ .nan := by
  obtain ⟨d, r, e2, hd, h2⟩ := own_whole_pos hB hm
  have e := Jvm.FP.Core.val64_ddiv x m
  rw [e2] at e
  intro z
  have hz : Jvm.FP.Core.quotient Jvm.FP.Core.b64 (Jvm.FP.Core.val64 x) (.fin false d r) = .nan := e.symm.trans z
  have hx' : Jvm.FP.Core.Whole i (Jvm.FP.Core.val64 x) := hx
  generalize Jvm.FP.Core.val64 x = v at hx' hz
  cases v with
  | nan => exact hx'
  | inf s => exact hx'
  | fin s c q =>
    have k : (if d = 0 then (if c = 0 then Jvm.FP.Core.Datum.nan else .inf (s != false)) else Jvm.FP.Core.roundRatio Jvm.FP.Core.b64 (s != false) c d (q - r)) = .nan := hz
    rw [if_neg (Nat.pos_iff_ne_zero.mp hd)] at k
    exact Jvm.FP.Core.roundRatio_ne_nan _ _ _ _ _ k
/-- two doubles that are the same whole number, divided by one: equal -/
theorem own_same_mean {i : Int} {x y m : UInt64} {B : Nat} (hx : Jvm.FP.Core.DInt i x) (hy : Jvm.FP.Core.DInt i y) (hB : 0 < B) (hm : Jvm.FP.Core.DInt (B : Int) m) : FP.dcmp (FP.ddiv x m) (FP.ddiv y m) = some .eq := by
  by_cases h : i = 0
  · subst h
    obtain ⟨n1, z1⟩ := own_dint_zero hx hB hm
    obtain ⟨n2, z2⟩ := own_dint_zero hy hB hm
    rw [own_cmp n1 n2, z1, z2]
    rfl
  · have e : x = y := Jvm.FP.Core.dint_unique h hx hy
    subst e
    exact Jvm.FP.Core.dcmp_self (own_div_num hx hB hm)
theorem own_dstoreN {tb : Tables} [Ours tb] {e : Env} {below : List Frame} {T target : State} {m : MethodId} {c : Code} {g : JFrame} (h : At T m c below) (hx : tb.exec = Jvm.exec) (hg : g.method = m) {k : Fin 4} {x : UInt64} {rest : List Value} {l' : Array Slot} (hd : decode c.code g.pc = .ok (.dstore_n k, 1)) (hs : g.stack = .double x :: rest) (hl : storeLocals g.locals k.val (.double x) = some l')
    (hr : Steps tb e below (T.setTop { g with pc := g.pc + 1, stack := rest, locals := l' }) target) : Steps tb e below (T.setTop g) target := by
  subst hg
  jvm_step h [h.top, hx, hd, hs, hl]
  exact hr
theorem d3_0 : decode jdk_22_method_1_code 0 = .ok (.aload_n 0, 1) := by decide +kernel
theorem d3_1 : decode jdk_22_method_1_code 1 = .ok (.invokespecial 1, 3) := by decide +kernel
theorem d3_4 : decode jdk_22_method_1_code 4 = .ok (.return_, 1) := by decide +kernel
theorem pn_3 : plainName "java/util/AbstractCollection" = true := by first | (simp [plainName, overriddenIn]; done) | decide +kernel
theorem ef_3 (m : MethodId) (x0 : Addr) : entryFrame m #[(.ref x0)] 1 = mkF m 0 #[.val (.ref x0)] [] := by first | (simp [entryFrame, mkF, argsToLocals, Value.category]; done) | rfl
set_option maxRecDepth 65536 in
set_option maxHeartbeats 40000000 in
theorem r3 (l : Launch) (Z : State) (a0 : Array Value) (hw : ∀ d ∈ tables_1, d.before a0 Z = true) (ws : List Jvm.Cond) (a1 : Addr) (h0 : Heap) (n0 : Nat) (Z0 : n0 ≤ h0.size) :
    MetFree l (⟨"java/util/AbstractCollection", "<init>", "()V"⟩ : MethodName) (head1 (Jvm.Cond.code (⟨"java/util/AbstractCollection", "<init>", "()V"⟩ : MethodName) jdk_22_method_1_code 1 none :: ws) ({ frames := 1, cells := 0, slots := 0, locals := 12 } : Room)) (fun a U => a = #[(.ref a1)] ∧ Z.Warmed39 U.vm ∧ U.heap = h0) (fun _ _ _ _ _ => True) (fun _ U o U' => ∃ v L, o = .returned v ∧ QR (none) h0 n0 v U'.heap L ∧ FrameEnd U o U' L ({ frames := 1, cells := 0, slots := 0, locals := 12 } : Room).cells ({ frames := 1, cells := 0, slots := 0, locals := 12 } : Room).slots) := by
  refine MetFree.of_bodySF (plainFor_of_name pn_3) hisR ?_
  intro p e s m args below meth c s₁ Bd hml0 hP hK
  obtain ⟨rfl, hZ, hh⟩ := hP
  have hx := Bd.exec
  have hby := Bd.bytes
  have hml : c.maxLocals = 1 := hml0
  have hown : s.vm.findClass "java/util/AbstractCollection" = some m.cls := findClass_of_methodNamed Bd.named
  have hnm := (name_of_methodNamed Bd.named Bd.method).1
  have X0 : Stand p l e ({ frames := 1, cells := 0, slots := 0, locals := 12 } : Room) s m #[(.ref a1)] below meth c s₁ [] 0 0 := Stand.of_body Bd
  have e0 : s₁.heap = h0 := by rw [← hh, Bd.state]; rfl
  have N0 := Fr.nil n0
  have pre0 : ∀ t, Steps p.tables e below (s₁.setTop (mkF m 0 #[.val (.ref a1)] [])) t → Steps p.tables e below (s₁.setTop (entryFrame m #[(.ref a1)] 1)) t := fun t k => castTop (ef_3 m a1) k
  obtain ⟨T2, X2, e2, st2⟩ := initO X0 hx hZ hown (hw _ (List.mem_of_getElem? (i := 19) rfl)) (hw _ (List.mem_of_getElem? (i := 20) rfl)) (hw _ (List.mem_of_getElem? (i := 21) rfl)) e0 (g := (mkF m 1 #[.val (.ref a1)] [(.ref a1)])) rfl (by rw [hml]; rfl) rfl (hb hby d3_1) (by decide) (W := 0) (by show 2 * 0 + _ ≤ _; exact Nat.le_of_eq rfl) (by decide)
  obtain ⟨fs, hr, hrun, hended, hW, hsame⟩ := X2.leave (v := none) (fun _ => rfl)
  refine ⟨_, _, pre0 _ ?_, hrun, hended, _, _, rfl, ?_, ⟨_, rfl⟩, hW, hsame.mono (by decide) (by decide)⟩
  · show Steps p.tables e below (s₁.setTop (mkF m 0 #[.val (.ref a1)] [])) _
    refine XS.aloadN X0.here hx rfl (hb hby d3_0) rfl rfl ?_
    show Steps p.tables e below (s₁.setTop (mkF m 1 #[.val (.ref a1)] [(.ref a1)])) _
    refine st2 _ ?_
    show Steps p.tables e below (T2.setTop (mkF m 4 #[.val (.ref a1)] [])) _
    exact X2.returnOut hx Bd.returns (hb hby d3_4) hr
  · show QR (none) h0 n0 _ T2.heap _
    rw [e2]
    exact ⟨rfl, N0, rfl⟩
theorem d6_0 : decode jdk_30_method_1_code 0 = .ok (.aload_n 0, 1) := by decide +kernel
theorem d6_1 : decode jdk_30_method_1_code 1 = .ok (.invokespecial 1, 3) := by decide +kernel
theorem d6_4 : decode jdk_30_method_1_code 4 = .ok (.return_, 1) := by decide +kernel
theorem pn_6 : plainName "java/lang/Record" = true := by first | (simp [plainName, overriddenIn]; done) | decide +kernel
theorem ef_6 (m : MethodId) (x0 : Addr) : entryFrame m #[(.ref x0)] 1 = mkF m 0 #[.val (.ref x0)] [] := by first | (simp [entryFrame, mkF, argsToLocals, Value.category]; done) | rfl
set_option maxRecDepth 65536 in
set_option maxHeartbeats 40000000 in
theorem r6 (l : Launch) (Z : State) (a0 : Array Value) (hw : ∀ d ∈ tables_1, d.before a0 Z = true) (ws : List Jvm.Cond) (a1 : Addr) (h0 : Heap) (n0 : Nat) (Z0 : n0 ≤ h0.size) :
    MetFree l (⟨"java/lang/Record", "<init>", "()V"⟩ : MethodName) (head1 (Jvm.Cond.code (⟨"java/lang/Record", "<init>", "()V"⟩ : MethodName) jdk_30_method_1_code 1 none :: ws) ({ frames := 1, cells := 0, slots := 0, locals := 12 } : Room)) (fun a U => a = #[(.ref a1)] ∧ Z.Warmed39 U.vm ∧ U.heap = h0) (fun _ _ _ _ _ => True) (fun _ U o U' => ∃ v L, o = .returned v ∧ QR (none) h0 n0 v U'.heap L ∧ FrameEnd U o U' L ({ frames := 1, cells := 0, slots := 0, locals := 12 } : Room).cells ({ frames := 1, cells := 0, slots := 0, locals := 12 } : Room).slots) := by
  refine MetFree.of_bodySF (plainFor_of_name pn_6) hisR ?_
  intro p e s m args below meth c s₁ Bd hml0 hP hK
  obtain ⟨rfl, hZ, hh⟩ := hP
  have hx := Bd.exec
  have hby := Bd.bytes
  have hml : c.maxLocals = 1 := hml0
  have hown : s.vm.findClass "java/lang/Record" = some m.cls := findClass_of_methodNamed Bd.named
  have hnm := (name_of_methodNamed Bd.named Bd.method).1
  have X0 : Stand p l e ({ frames := 1, cells := 0, slots := 0, locals := 12 } : Room) s m #[(.ref a1)] below meth c s₁ [] 0 0 := Stand.of_body Bd
  have e0 : s₁.heap = h0 := by rw [← hh, Bd.state]; rfl
  have N0 := Fr.nil n0
  have pre0 : ∀ t, Steps p.tables e below (s₁.setTop (mkF m 0 #[.val (.ref a1)] [])) t → Steps p.tables e below (s₁.setTop (entryFrame m #[(.ref a1)] 1)) t := fun t k => castTop (ef_6 m a1) k
  obtain ⟨T2, X2, e2, st2⟩ := initO X0 hx hZ hown (hw _ (List.mem_of_getElem? (i := 38) rfl)) (hw _ (List.mem_of_getElem? (i := 20) rfl)) (hw _ (List.mem_of_getElem? (i := 21) rfl)) e0 (g := (mkF m 1 #[.val (.ref a1)] [(.ref a1)])) rfl (by rw [hml]; rfl) rfl (hb hby d6_1) (by decide) (W := 0) (by show 2 * 0 + _ ≤ _; exact Nat.le_of_eq rfl) (by decide)
  obtain ⟨fs, hr, hrun, hended, hW, hsame⟩ := X2.leave (v := none) (fun _ => rfl)
  refine ⟨_, _, pre0 _ ?_, hrun, hended, _, _, rfl, ?_, ⟨_, rfl⟩, hW, hsame.mono (by decide) (by decide)⟩
  · show Steps p.tables e below (s₁.setTop (mkF m 0 #[.val (.ref a1)] [])) _
    refine XS.aloadN X0.here hx rfl (hb hby d6_0) rfl rfl ?_
    show Steps p.tables e below (s₁.setTop (mkF m 1 #[.val (.ref a1)] [(.ref a1)])) _
    refine st2 _ ?_
    show Steps p.tables e below (T2.setTop (mkF m 4 #[.val (.ref a1)] [])) _
    exact X2.returnOut hx Bd.returns (hb hby d6_4) hr
  · show QR (none) h0 n0 _ T2.heap _
    rw [e2]
    exact ⟨rfl, N0, rfl⟩
theorem d2_0 : decode jdk_39_method_1_code 0 = .ok (.aload_n 0, 1) := by decide +kernel
theorem d2_1 : decode jdk_39_method_1_code 1 = .ok (.invokespecial 1, 3) := by decide +kernel
theorem d2_4 : decode jdk_39_method_1_code 4 = .ok (.aload_n 0, 1) := by decide +kernel
theorem d2_5 : decode jdk_39_method_1_code 5 = .ok (.iconst 0, 1) := by decide +kernel
theorem d2_6 : decode jdk_39_method_1_code 6 = .ok (.putfield 7, 3) := by decide +kernel
theorem d2_9 : decode jdk_39_method_1_code 9 = .ok (.return_, 1) := by decide +kernel
theorem pn_2 : plainName "java/util/AbstractList" = true := by first | (simp [plainName, overriddenIn]; done) | decide +kernel
theorem pd_2_0 : parseMethodDescriptor "()V" = some ⟨[], none⟩ := by decide +kernel
theorem ef_2 (m : MethodId) (x0 : Addr) : entryFrame m #[(.ref x0)] 1 = mkF m 0 #[.val (.ref x0)] [] := by first | (simp [entryFrame, mkF, argsToLocals, Value.category]; done) | rfl
def Q2 (Z : State) (a1 : Addr) (h0 : Heap) (n0 : Nat) (v : Option Value) (h : Heap) (L : List Loc) : Prop := v = none ∧ Fr n0 L ∧ Wr h0 h a1 (Jvm.RoadKit.slotOf Z "java/util/AbstractList" "modCount" "I") (.int (0 : Int32))
set_option maxRecDepth 65536 in
set_option maxHeartbeats 40000000 in
theorem r2 (l : Launch) (Z : State) (a0 : Array Value) (hw : ∀ d ∈ tables_1, d.before a0 Z = true) (ws : List Jvm.Cond) (a1 : Addr) (u_modCount_a1 : Value) (h0 : Heap) (n0 : Nat) (Z0 : n0 ≤ h0.size) (E_a1 : Exa Z h0 a1 "java/util/ArrayList") (F_modCount_a1 : Fld Z h0 a1 "java/util/AbstractList" "modCount" "I" u_modCount_a1) (g_a1 : n0 ≤ a1) :
    MetFree l (⟨"java/util/AbstractList", "<init>", "()V"⟩ : MethodName) (head1 (Jvm.Cond.code (⟨"java/util/AbstractList", "<init>", "()V"⟩ : MethodName) jdk_39_method_1_code 1 none :: ws) ({ frames := 2, cells := 0, slots := 0, locals := 24 } : Room)) (fun a U => a = #[(.ref a1)] ∧ Z.Warmed39 U.vm ∧ U.heap = h0) (fun _ _ _ _ _ => True) (fun _ U o U' => ∃ v L, o = .returned v ∧ Q2 Z a1 h0 n0 v U'.heap L ∧ FrameEnd U o U' L ({ frames := 2, cells := 0, slots := 0, locals := 24 } : Room).cells ({ frames := 2, cells := 0, slots := 0, locals := 24 } : Room).slots) := by
  refine MetFree.of_bodySF (plainFor_of_name pn_2) hisR ?_
  intro p e s m args below meth c s₁ Bd hml0 hP hK
  obtain ⟨rfl, hZ, hh⟩ := hP
  have hx := Bd.exec
  have hby := Bd.bytes
  have hml : c.maxLocals = 1 := hml0
  have hown : s.vm.findClass "java/util/AbstractList" = some m.cls := findClass_of_methodNamed Bd.named
  have hnm := (name_of_methodNamed Bd.named Bd.method).1
  have X0 : Stand p l e ({ frames := 2, cells := 0, slots := 0, locals := 24 } : Room) s m #[(.ref a1)] below meth c s₁ [] 0 0 := Stand.of_body Bd
  have e0 : s₁.heap = h0 := by rw [← hh, Bd.state]; rfl
  have N0 := Fr.nil n0
  have pre0 : ∀ t, Steps p.tables e below (s₁.setTop (mkF m 0 #[.val (.ref a1)] [])) t → Steps p.tables e below (s₁.setTop (entryFrame m #[(.ref a1)] 1)) t := fun t k => castTop (ef_2 m a1) k
  obtain ⟨_, _, ⟨T2, L2, k2, n2⟩, -, X2, ⟨Lc2, hQ2, l2, y2, z2⟩, st2⟩ := X0.specialBack hx (y := (⟨"java/util/AbstractCollection", "<init>", "()V"⟩ : MethodName)) rfl hown (mvT hZ (hw _ (List.mem_of_getElem? (i := 13) rfl))) (mvT hZ (hw _ (List.mem_of_getElem? (i := 14) rfl))) (mvT hZ (hw _ (List.mem_of_getElem? (i := 18) rfl))) (by decide) (backOf (W := 0) (r3 l Z a0 hw [] a1 h0 n0 Z0) hZ (hw _ (List.mem_of_getElem? (i := 18) rfl)) (hw _ (List.mem_of_getElem? (i := 17) rfl)) (by decide) (by decide)) (g := (mkF m 1 #[.val (.ref a1)] [(.ref a1)])) rfl (by rw [hml]; rfl) (Steps.refl _) (a := a1) (argsL := []) (rest := []) (lenOf pd_2_0 rfl) rfl (by show 2 * 0 + _ ≤ _; exact Nat.le_of_eq rfl) (hb hby d2_1) (fun _ _ => ⟨rfl, e0, (by decide : 0 + 0 ≤ _), (by decide : 0 + 0 ≤ _)⟩)
  dsimp only [Pt.U, Pt.locs, Pt.cells, Pt.slots] at X2 l2 y2 z2 st2 hQ2
  subst l2 y2 z2
  obtain ⟨rfl, N2q, e2h⟩ := hQ2
  have N2 := Fr.app N0 N2q
  obtain ⟨T3, h3, X3, e3, W3, st3⟩ := putF X2 hx hZ hown (host := "") (Or.inl (hw _ (List.mem_of_getElem? (i := 22) rfl))) Via.refl e2h F_modCount_a1 E_a1 (Or.inl (hw _ (List.mem_of_getElem? (i := 23) rfl))) (hw _ (List.mem_of_getElem? (i := 2) rfl)) (ty := .int) (by decide) rfl rfl (g := (mkF m 6 #[.val (.ref a1)] [(.int (0 : Int32)), (.ref a1)])) rfl rfl (hb hby d2_6)
  have Fw3 := F_modCount_a1.same W3
  have K3 : Keep h0 h3 [a1] := (Keep.refl h0 [a1]).wr W3 (Or.inl (List.mem_of_getElem? (i := 0) rfl))
  have N3 := Fr.snoc X3 N2 g_a1
  obtain ⟨fs, hr, hrun, hended, hW, hsame⟩ := X3.leave (v := none) (fun _ => rfl)
  refine ⟨_, _, pre0 _ ?_, hrun, hended, _, _, rfl, ?_, ⟨_, rfl⟩, hW, hsame.mono (by decide) (by decide)⟩
  · show Steps p.tables e below (s₁.setTop (mkF m 0 #[.val (.ref a1)] [])) _
    refine XS.aloadN X0.here hx rfl (hb hby d2_0) rfl rfl ?_
    show Steps p.tables e below (s₁.setTop (mkF m 1 #[.val (.ref a1)] [(.ref a1)])) _
    refine st2.trans ?_
    show Steps p.tables e below (T2.setTop (mkF m 4 #[.val (.ref a1)] [])) _
    refine XS.aloadN X2.here hx rfl (hb hby d2_4) rfl rfl ?_
    show Steps p.tables e below (T2.setTop (mkF m 5 #[.val (.ref a1)] [(.ref a1)])) _
    refine XS.iconst X2.here hx rfl (hb hby d2_5) ?_
    show Steps p.tables e below (T2.setTop (mkF m 6 #[.val (.ref a1)] [(.int (0 : Int32)), (.ref a1)])) _
    refine st3 _ ?_
    show Steps p.tables e below (T3.setTop (mkF m 9 #[.val (.ref a1)] [])) _
    exact X3.returnOut hx Bd.returns (hb hby d2_9) hr
  · show Q2 Z a1 h0 n0 _ T3.heap _
    rw [e3]
    exact ⟨rfl, N3, W3⟩
theorem d1_0 : decode jdk_38_method_2_code 0 = .ok (.aload_n 0, 1) := by decide +kernel
theorem d1_1 : decode jdk_38_method_2_code 1 = .ok (.invokespecial 1, 3) := by decide +kernel
theorem d1_4 : decode jdk_38_method_2_code 4 = .ok (.aload_n 0, 1) := by decide +kernel
theorem d1_5 : decode jdk_38_method_2_code 5 = .ok (.getstatic 39, 3) := by decide +kernel
theorem d1_8 : decode jdk_38_method_2_code 8 = .ok (.putfield 9, 3) := by decide +kernel
theorem d1_11 : decode jdk_38_method_2_code 11 = .ok (.return_, 1) := by decide +kernel
theorem pn_1 : plainName "java/util/ArrayList" = true := by first | (simp [plainName, overriddenIn]; done) | decide +kernel
theorem pd_1_0 : parseMethodDescriptor "()V" = some ⟨[], none⟩ := by decide +kernel
theorem ef_1 (m : MethodId) (x0 : Addr) : entryFrame m #[(.ref x0)] 1 = mkF m 0 #[.val (.ref x0)] [] := by first | (simp [entryFrame, mkF, argsToLocals, Value.category]; done) | rfl
def Q1 (a1 : Addr) (h0 : Heap) (n0 : Nat) (v : Option Value) (h : Heap) (L : List Loc) : Prop := v = none ∧ Fr n0 L ∧ Keep h0 h [a1]
set_option maxRecDepth 65536 in
set_option maxHeartbeats 40000000 in
theorem r1 (l : Launch) (Z : State) (a0 : Array Value) (hw : ∀ d ∈ tables_1, d.before a0 Z = true) (ws : List Jvm.Cond) (a1 : Addr) (w3 : Addr) (u_elementData_a1 u_modCount_a1 : Value) (h0 : Heap) (n0 : Nat) (Z0 : n0 ≤ h0.size) (S_DEFAULTCAPACITY_EMPTY_ELEMENTDATA : Sta Z h0 "java/util/ArrayList" "DEFAULTCAPACITY_EMPTY_ELEMENTDATA" "[Ljava/lang/Object;" (.ref w3)) (E_a1 : Exa Z h0 a1 "java/util/ArrayList") (F_elementData_a1 : Fld Z h0 a1 "java/util/ArrayList" "elementData" "[Ljava/lang/Object;" u_elementData_a1) (g_a1 : n0 ≤ a1) (F_modCount_a1 : Fld Z h0 a1 "java/util/AbstractList" "modCount" "I" u_modCount_a1) :
    MetFree l (⟨"java/util/ArrayList", "<init>", "()V"⟩ : MethodName) (head1 (Jvm.Cond.code (⟨"java/util/ArrayList", "<init>", "()V"⟩ : MethodName) jdk_38_method_2_code 1 none :: ws) ({ frames := 3, cells := 0, slots := 0, locals := 36 } : Room)) (fun a U => a = #[(.ref a1)] ∧ Z.Warmed39 U.vm ∧ U.heap = h0) (fun _ _ _ _ _ => True) (fun _ U o U' => ∃ v L, o = .returned v ∧ Q1 a1 h0 n0 v U'.heap L ∧ FrameEnd U o U' L ({ frames := 3, cells := 0, slots := 0, locals := 36 } : Room).cells ({ frames := 3, cells := 0, slots := 0, locals := 36 } : Room).slots) := by
  refine MetFree.of_bodySF (plainFor_of_name pn_1) hisR ?_
  intro p e s m args below meth c s₁ Bd hml0 hP hK
  obtain ⟨rfl, hZ, hh⟩ := hP
  have hx := Bd.exec
  have hby := Bd.bytes
  have hml : c.maxLocals = 1 := hml0
  have hown : s.vm.findClass "java/util/ArrayList" = some m.cls := findClass_of_methodNamed Bd.named
  have hnm := (name_of_methodNamed Bd.named Bd.method).1
  have X0 : Stand p l e ({ frames := 3, cells := 0, slots := 0, locals := 36 } : Room) s m #[(.ref a1)] below meth c s₁ [] 0 0 := Stand.of_body Bd
  have e0 : s₁.heap = h0 := by rw [← hh, Bd.state]; rfl
  have N0 := Fr.nil n0
  have pre0 : ∀ t, Steps p.tables e below (s₁.setTop (mkF m 0 #[.val (.ref a1)] [])) t → Steps p.tables e below (s₁.setTop (entryFrame m #[(.ref a1)] 1)) t := fun t k => castTop (ef_1 m a1) k
  obtain ⟨_, _, ⟨T2, L2, k2, n2⟩, -, X2, ⟨Lc2, hQ2, l2, y2, z2⟩, st2⟩ := X0.specialBack hx (y := (⟨"java/util/AbstractList", "<init>", "()V"⟩ : MethodName)) rfl hown (mvT hZ (hw _ (List.mem_of_getElem? (i := 7) rfl))) (mvT hZ (hw _ (List.mem_of_getElem? (i := 8) rfl))) (mvT hZ (hw _ (List.mem_of_getElem? (i := 12) rfl))) (by decide) (backOf (W := 0) (r2 l Z a0 hw [] a1 u_modCount_a1 h0 n0 Z0 E_a1 F_modCount_a1 g_a1) hZ (hw _ (List.mem_of_getElem? (i := 12) rfl)) (hw _ (List.mem_of_getElem? (i := 11) rfl)) (by decide) (by decide)) (g := (mkF m 1 #[.val (.ref a1)] [(.ref a1)])) rfl (by rw [hml]; rfl) (Steps.refl _) (a := a1) (argsL := []) (rest := []) (lenOf pd_1_0 rfl) rfl (by show 2 * 0 + _ ≤ _; exact Nat.le_of_eq rfl) (hb hby d1_1) (fun _ _ => ⟨rfl, e0, (by decide : 0 + 0 ≤ _), (by decide : 0 + 0 ≤ _)⟩)
  dsimp only [Pt.U, Pt.locs, Pt.cells, Pt.slots] at X2 l2 y2 z2 st2 hQ2
  subst l2 y2 z2
  obtain ⟨rfl, N2q, W2⟩ := hQ2
  have N2 := Fr.app N0 N2q
  obtain ⟨T4, X4, e4, st4⟩ := getS2 X2 hx hZ hown (host := "") (Or.inl (hw _ (List.mem_of_getElem? (i := 24) rfl))) Via.refl rfl (S_DEFAULTCAPACITY_EMPTY_ELEMENTDATA.wr W2) (g := (mkF m 5 #[.val (.ref a1)] [(.ref a1)])) rfl (hb hby d1_5)
  obtain ⟨T5, h5, X5, e5, W5, st5⟩ := putF X4 hx hZ hown (host := "") (Or.inl (hw _ (List.mem_of_getElem? (i := 25) rfl))) Via.refl e4 (F_elementData_a1.other W2 (Or.inr (slot_ne (Or.inl (hw _ (List.mem_of_getElem? (i := 26) rfl))) (Or.inl (hw _ (List.mem_of_getElem? (i := 23) rfl))) (by decide) (t := (.array (.object "java/lang/Object"))) (t' := .int) (by decide) (by decide)))) (E_a1.wr W2) (Or.inl (hw _ (List.mem_of_getElem? (i := 26) rfl))) (hw _ (List.mem_of_getElem? (i := 2) rfl)) (ty := (.array (.object "java/lang/Object"))) (by decide) rfl rfl (g := (mkF m 8 #[.val (.ref a1)] [(.ref w3), (.ref a1)])) rfl rfl (hb hby d1_8)
  have Fw5 := (F_elementData_a1.other W2 (Or.inr (slot_ne (Or.inl (hw _ (List.mem_of_getElem? (i := 26) rfl))) (Or.inl (hw _ (List.mem_of_getElem? (i := 23) rfl))) (by decide) (t := (.array (.object "java/lang/Object"))) (t' := .int) (by decide) (by decide)))).same W5
  have K5 : Keep h0 h5 [a1] := ((Keep.refl h0 [a1]).wr W2 (Or.inl (List.mem_of_getElem? (i := 0) rfl))).wr W5 (Or.inl (List.mem_of_getElem? (i := 0) rfl))
  have N5 := Fr.snoc X5 N2 g_a1
  obtain ⟨fs, hr, hrun, hended, hW, hsame⟩ := X5.leave (v := none) (fun _ => rfl)
  refine ⟨_, _, pre0 _ ?_, hrun, hended, _, _, rfl, ?_, ⟨_, rfl⟩, hW, hsame.mono (by decide) (by decide)⟩
  · show Steps p.tables e below (s₁.setTop (mkF m 0 #[.val (.ref a1)] [])) _
    refine XS.aloadN X0.here hx rfl (hb hby d1_0) rfl rfl ?_
    show Steps p.tables e below (s₁.setTop (mkF m 1 #[.val (.ref a1)] [(.ref a1)])) _
    refine st2.trans ?_
    show Steps p.tables e below (T2.setTop (mkF m 4 #[.val (.ref a1)] [])) _
    refine XS.aloadN X2.here hx rfl (hb hby d1_4) rfl rfl ?_
    show Steps p.tables e below (T2.setTop (mkF m 5 #[.val (.ref a1)] [(.ref a1)])) _
    refine st4 _ ?_
    show Steps p.tables e below (T4.setTop (mkF m 8 #[.val (.ref a1)] [(.ref w3), (.ref a1)])) _
    refine st5 _ ?_
    show Steps p.tables e below (T5.setTop (mkF m 11 #[.val (.ref a1)] [])) _
    exact X5.returnOut hx Bd.returns (hb hby d1_11) hr
  · show Q1 a1 h0 n0 _ T5.heap _
    rw [e5]
    exact ⟨rfl, N5, K5⟩
theorem d5_0 : decode prog_15_method_1_code 0 = .ok (.aload_n 0, 1) := by decide +kernel
theorem d5_1 : decode prog_15_method_1_code 1 = .ok (.invokespecial 1, 3) := by decide +kernel
theorem d5_4 : decode prog_15_method_1_code 4 = .ok (.aload_n 0, 1) := by decide +kernel
theorem d5_5 : decode prog_15_method_1_code 5 = .ok (.aload_n 1, 1) := by decide +kernel
theorem d5_6 : decode prog_15_method_1_code 6 = .ok (.putfield 7, 3) := by decide +kernel
theorem d5_9 : decode prog_15_method_1_code 9 = .ok (.aload_n 0, 1) := by decide +kernel
theorem d5_10 : decode prog_15_method_1_code 10 = .ok (.dload_n 2, 1) := by decide +kernel
theorem d5_11 : decode prog_15_method_1_code 11 = .ok (.putfield 13, 3) := by decide +kernel
theorem d5_14 : decode prog_15_method_1_code 14 = .ok (.aload_n 0, 1) := by decide +kernel
theorem d5_15 : decode prog_15_method_1_code 15 = .ok (.aload 4, 2) := by decide +kernel
theorem d5_17 : decode prog_15_method_1_code 17 = .ok (.putfield 17, 3) := by decide +kernel
theorem d5_20 : decode prog_15_method_1_code 20 = .ok (.return_, 1) := by decide +kernel
theorem pn_5 : plainName "com/example/tidegrid/tidegrid/Benchmark$Timed" = true := by first | (simp [plainName, overriddenIn]; done) | decide +kernel
theorem pd_5_0 : parseMethodDescriptor "()V" = some ⟨[], none⟩ := by decide +kernel
theorem ef_5 (m : MethodId) (x0 : Addr) (x1 : Addr) (x2 : UInt64) (x3 : Addr) : entryFrame m #[(.ref x0), (.ref x1), (.double x2), (.ref x3)] 5 = mkF m 0 #[.val (.ref x0), .val (.ref x1), .val (.double x2), .second, .val (.ref x3)] [] := by first | (simp [entryFrame, mkF, argsToLocals, Value.category]; done) | rfl
def Q5 (Z : State) (a1 a2 : Addr) (h0 : Heap) (n0 : Nat) (v : Option Value) (h : Heap) (L : List Loc) : Prop := v = none ∧ Fr n0 L ∧ Keep h0 h [a1] ∧ Fld Z h a1 "com/example/tidegrid/tidegrid/Benchmark$Timed" "ms" "[D" (.ref a2)
set_option maxRecDepth 65536 in
set_option maxHeartbeats 40000000 in
theorem r5 (l : Launch) (Z : State) (a0 : Array Value) (hw : ∀ d ∈ tables_1, d.before a0 Z = true) (ws : List Jvm.Cond) (a1 : Addr) (a2 : Addr) (u3 : UInt64) (a4 : Addr) (u_ms_a1 : Value) (u_examinedMean_a1 : Value) (u_checked_a1 : Value) (h0 : Heap) (n0 : Nat) (Z0 : n0 ≤ h0.size) (E_a1 : Exa Z h0 a1 "com/example/tidegrid/tidegrid/Benchmark$Timed") (F_ms_a1 : Fld Z h0 a1 "com/example/tidegrid/tidegrid/Benchmark$Timed" "ms" "[D" u_ms_a1) (g_a1 : n0 ≤ a1) (F_examinedMean_a1 : Fld Z h0 a1 "com/example/tidegrid/tidegrid/Benchmark$Timed" "examinedMean" "D" u_examinedMean_a1) (F_checked_a1 : Fld Z h0 a1 "com/example/tidegrid/tidegrid/Benchmark$Timed" "checked" "Ljava/util/List;" u_checked_a1) :
    MetFree l (⟨"com/example/tidegrid/tidegrid/Benchmark$Timed", "<init>", "([DDLjava/util/List;)V"⟩ : MethodName) (head1 (Jvm.Cond.code (⟨"com/example/tidegrid/tidegrid/Benchmark$Timed", "<init>", "([DDLjava/util/List;)V"⟩ : MethodName) prog_15_method_1_code 5 none :: ws) ({ frames := 2, cells := 0, slots := 0, locals := 24 } : Room)) (fun a U => a = #[(.ref a1), (.ref a2), (.double u3), (.ref a4)] ∧ Z.Warmed39 U.vm ∧ U.heap = h0) (fun _ _ _ _ _ => True) (fun _ U o U' => ∃ v L, o = .returned v ∧ Q5 Z a1 a2 h0 n0 v U'.heap L ∧ FrameEnd U o U' L ({ frames := 2, cells := 0, slots := 0, locals := 24 } : Room).cells ({ frames := 2, cells := 0, slots := 0, locals := 24 } : Room).slots) := by
  refine MetFree.of_bodySF (plainFor_of_name pn_5) hisR ?_
  intro p e s m args below meth c s₁ Bd hml0 hP hK
  obtain ⟨rfl, hZ, hh⟩ := hP
  have hx := Bd.exec
  have hby := Bd.bytes
  have hml : c.maxLocals = 5 := hml0
  have hown : s.vm.findClass "com/example/tidegrid/tidegrid/Benchmark$Timed" = some m.cls := findClass_of_methodNamed Bd.named
  have hnm := (name_of_methodNamed Bd.named Bd.method).1
  have X0 : Stand p l e ({ frames := 2, cells := 0, slots := 0, locals := 24 } : Room) s m #[(.ref a1), (.ref a2), (.double u3), (.ref a4)] below meth c s₁ [] 0 0 := Stand.of_body Bd
  have e0 : s₁.heap = h0 := by rw [← hh, Bd.state]; rfl
  have N0 := Fr.nil n0
  have pre0 : ∀ t, Steps p.tables e below (s₁.setTop (mkF m 0 #[.val (.ref a1), .val (.ref a2), .val (.double u3), .second, .val (.ref a4)] [])) t → Steps p.tables e below (s₁.setTop (entryFrame m #[(.ref a1), (.ref a2), (.double u3), (.ref a4)] 5)) t := fun t k => castTop (ef_5 m a1 a2 u3 a4) k
  obtain ⟨_, _, ⟨T5, L5, k5, n5⟩, -, X5, ⟨Lc5, hQ5, l5, y5, z5⟩, st5⟩ := X0.specialBack hx (y := (⟨"java/lang/Record", "<init>", "()V"⟩ : MethodName)) rfl hown (mvT hZ (hw _ (List.mem_of_getElem? (i := 33) rfl))) (mvT hZ (hw _ (List.mem_of_getElem? (i := 34) rfl))) (mvT hZ (hw _ (List.mem_of_getElem? (i := 37) rfl))) (by decide) (backOf (W := 0) (r6 l Z a0 hw [] a1 h0 n0 Z0) hZ (hw _ (List.mem_of_getElem? (i := 37) rfl)) (hw _ (List.mem_of_getElem? (i := 36) rfl)) (by decide) (by decide)) (g := (mkF m 1 #[.val (.ref a1), .val (.ref a2), .val (.double u3), .second, .val (.ref a4)] [(.ref a1)])) rfl (by rw [hml]; rfl) (Steps.refl _) (a := a1) (argsL := []) (rest := []) (lenOf pd_5_0 rfl) rfl (by show 2 * 0 + _ ≤ _; exact Nat.le_of_eq rfl) (hb hby d5_1) (fun _ _ => ⟨rfl, e0, (by decide : 0 + 0 ≤ _), (by decide : 0 + 0 ≤ _)⟩)
  dsimp only [Pt.U, Pt.locs, Pt.cells, Pt.slots] at X5 l5 y5 z5 st5 hQ5
  subst l5 y5 z5
  obtain ⟨rfl, N5q, e5h⟩ := hQ5
  have N5 := Fr.app N0 N5q
  obtain ⟨T6, h6, X6, e6, W6, st6⟩ := putF X5 hx hZ hown (host := "") (Or.inl (hw _ (List.mem_of_getElem? (i := 39) rfl))) Via.refl e5h F_ms_a1 E_a1 (Or.inr ⟨(hw _ (List.mem_of_getElem? (i := 40) rfl)), rfl, hnm⟩) (hw _ (List.mem_of_getElem? (i := 28) rfl)) (ty := (.array .double)) (by decide) rfl rfl (g := (mkF m 6 #[.val (.ref a1), .val (.ref a2), .val (.double u3), .second, .val (.ref a4)] [(.ref a2), (.ref a1)])) rfl rfl (hb hby d5_6)
  have Fw6 := F_ms_a1.same W6
  have K6 : Keep h0 h6 [a1] := (Keep.refl h0 [a1]).wr W6 (Or.inl (List.mem_of_getElem? (i := 0) rfl))
  have N6 := Fr.snoc X6 N5 g_a1
  obtain ⟨T7, h7, X7, e7, W7, st7⟩ := putF X6 hx hZ hown (host := "") (Or.inl (hw _ (List.mem_of_getElem? (i := 41) rfl))) Via.refl e6 (F_examinedMean_a1.other W6 (Or.inr (slot_ne (Or.inr (hw _ (List.mem_of_getElem? (i := 42) rfl))) (Or.inr (hw _ (List.mem_of_getElem? (i := 40) rfl))) (by decide) (t := .double) (t' := (.array .double)) (by decide) (by decide)))) (E_a1.wr W6) (Or.inr ⟨(hw _ (List.mem_of_getElem? (i := 42) rfl)), rfl, hnm⟩) (hw _ (List.mem_of_getElem? (i := 28) rfl)) (ty := .double) (by decide) rfl rfl (g := (mkF m 11 #[.val (.ref a1), .val (.ref a2), .val (.double u3), .second, .val (.ref a4)] [(.double u3), (.ref a1)])) rfl rfl (hb hby d5_11)
  have Fw7 := (F_examinedMean_a1.other W6 (Or.inr (slot_ne (Or.inr (hw _ (List.mem_of_getElem? (i := 42) rfl))) (Or.inr (hw _ (List.mem_of_getElem? (i := 40) rfl))) (by decide) (t := .double) (t' := (.array .double)) (by decide) (by decide)))).same W7
  have K7 : Keep h0 h7 [a1] := K6.wr W7 (Or.inl (List.mem_of_getElem? (i := 0) rfl))
  have N7 := Fr.snoc X7 N6 g_a1
  obtain ⟨T8, h8, X8, e8, W8, st8⟩ := putF X7 hx hZ hown (host := "") (Or.inl (hw _ (List.mem_of_getElem? (i := 43) rfl))) Via.refl e7 ((F_checked_a1.other W6 (Or.inr (slot_ne (Or.inr (hw _ (List.mem_of_getElem? (i := 44) rfl))) (Or.inr (hw _ (List.mem_of_getElem? (i := 40) rfl))) (by decide) (t := (.object "java/util/List")) (t' := (.array .double)) (by decide) (by decide)))).other W7 (Or.inr (slot_ne (Or.inr (hw _ (List.mem_of_getElem? (i := 44) rfl))) (Or.inr (hw _ (List.mem_of_getElem? (i := 42) rfl))) (by decide) (t := (.object "java/util/List")) (t' := .double) (by decide) (by decide)))) ((E_a1.wr W6).wr W7) (Or.inr ⟨(hw _ (List.mem_of_getElem? (i := 44) rfl)), rfl, hnm⟩) (hw _ (List.mem_of_getElem? (i := 28) rfl)) (ty := (.object "java/util/List")) (by decide) rfl rfl (g := (mkF m 17 #[.val (.ref a1), .val (.ref a2), .val (.double u3), .second, .val (.ref a4)] [(.ref a4), (.ref a1)])) rfl rfl (hb hby d5_17)
  have Fw8 := ((F_checked_a1.other W6 (Or.inr (slot_ne (Or.inr (hw _ (List.mem_of_getElem? (i := 44) rfl))) (Or.inr (hw _ (List.mem_of_getElem? (i := 40) rfl))) (by decide) (t := (.object "java/util/List")) (t' := (.array .double)) (by decide) (by decide)))).other W7 (Or.inr (slot_ne (Or.inr (hw _ (List.mem_of_getElem? (i := 44) rfl))) (Or.inr (hw _ (List.mem_of_getElem? (i := 42) rfl))) (by decide) (t := (.object "java/util/List")) (t' := .double) (by decide) (by decide)))).same W8
  have K8 : Keep h0 h8 [a1] := K7.wr W8 (Or.inl (List.mem_of_getElem? (i := 0) rfl))
  have N8 := Fr.snoc X8 N7 g_a1
  obtain ⟨fs, hr, hrun, hended, hW, hsame⟩ := X8.leave (v := none) (fun _ => rfl)
  refine ⟨_, _, pre0 _ ?_, hrun, hended, _, _, rfl, ?_, ⟨_, rfl⟩, hW, hsame.mono (by decide) (by decide)⟩
  · show Steps p.tables e below (s₁.setTop (mkF m 0 #[.val (.ref a1), .val (.ref a2), .val (.double u3), .second, .val (.ref a4)] [])) _
    refine XS.aloadN X0.here hx rfl (hb hby d5_0) rfl rfl ?_
    show Steps p.tables e below (s₁.setTop (mkF m 1 #[.val (.ref a1), .val (.ref a2), .val (.double u3), .second, .val (.ref a4)] [(.ref a1)])) _
    refine st5.trans ?_
    show Steps p.tables e below (T5.setTop (mkF m 4 #[.val (.ref a1), .val (.ref a2), .val (.double u3), .second, .val (.ref a4)] [])) _
    refine XS.aloadN X5.here hx rfl (hb hby d5_4) rfl rfl ?_
    show Steps p.tables e below (T5.setTop (mkF m 5 #[.val (.ref a1), .val (.ref a2), .val (.double u3), .second, .val (.ref a4)] [(.ref a1)])) _
    refine XS.aloadN X5.here hx rfl (hb hby d5_5) rfl rfl ?_
    show Steps p.tables e below (T5.setTop (mkF m 6 #[.val (.ref a1), .val (.ref a2), .val (.double u3), .second, .val (.ref a4)] [(.ref a2), (.ref a1)])) _
    refine st6 _ ?_
    show Steps p.tables e below (T6.setTop (mkF m 9 #[.val (.ref a1), .val (.ref a2), .val (.double u3), .second, .val (.ref a4)] [])) _
    refine XS.aloadN X6.here hx rfl (hb hby d5_9) rfl rfl ?_
    show Steps p.tables e below (T6.setTop (mkF m 10 #[.val (.ref a1), .val (.ref a2), .val (.double u3), .second, .val (.ref a4)] [(.ref a1)])) _
    refine own_dloadN X6.here hx rfl (hb hby d5_10) rfl ?_
    show Steps p.tables e below (T6.setTop (mkF m 11 #[.val (.ref a1), .val (.ref a2), .val (.double u3), .second, .val (.ref a4)] [(.double u3), (.ref a1)])) _
    refine st7 _ ?_
    show Steps p.tables e below (T7.setTop (mkF m 14 #[.val (.ref a1), .val (.ref a2), .val (.double u3), .second, .val (.ref a4)] [])) _
    refine XS.aloadN X7.here hx rfl (hb hby d5_14) rfl rfl ?_
    show Steps p.tables e below (T7.setTop (mkF m 15 #[.val (.ref a1), .val (.ref a2), .val (.double u3), .second, .val (.ref a4)] [(.ref a1)])) _
    refine XS.aload X7.here hx rfl (hb hby d5_15) rfl rfl ?_
    show Steps p.tables e below (T7.setTop (mkF m 17 #[.val (.ref a1), .val (.ref a2), .val (.double u3), .second, .val (.ref a4)] [(.ref a4), (.ref a1)])) _
    refine st8 _ ?_
    show Steps p.tables e below (T8.setTop (mkF m 20 #[.val (.ref a1), .val (.ref a2), .val (.double u3), .second, .val (.ref a4)] [])) _
    exact X8.returnOut hx Bd.returns (hb hby d5_20) hr
  · show Q5 Z a1 a2 h0 n0 _ T8.heap _
    rw [e8]
    exact ⟨rfl, N8, K8, (Fw6.other W7 (Or.inr (slot_ne (Or.inr (hw _ (List.mem_of_getElem? (i := 40) rfl))) (Or.inr (hw _ (List.mem_of_getElem? (i := 42) rfl))) (by decide) (t := (.array .double)) (t' := .double) (by decide) (by decide)))).other W8 (Or.inr (slot_ne (Or.inr (hw _ (List.mem_of_getElem? (i := 40) rfl))) (Or.inr (hw _ (List.mem_of_getElem? (i := 44) rfl))) (by decide) (t := (.array .double)) (t' := (.object "java/util/List")) (by decide) (by decide)))⟩
theorem own_i : ∀ N : Nat, N < 5 → ∀ i : Nat, i < N → (Int32.ofNat i).toNatClampNeg = i ∧ ¬ Int32.ofNat i < 0 ∧ Int32.ofNat i < Int32.ofNat N ∧ Int32.ofNat i + 1 = Int32.ofNat (i + 1) := by decide
theorem own_n : ∀ N : Nat, N < 5 → (Int32.ofNat N).toNatClampNeg = N ∧ ¬ Int32.ofNat N < 0 ∧ ¬ Int32.ofNat N < Int32.ofNat N ∧ (Int32.ofNat N).toInt = (N : Int) := by decide
/-- a double[] of N places, place j holds f j -/
def own_Da (Z : State) (h : Heap) (a : Addr) (N : Nat) (f : Nat → UInt64) : Prop := ∃ c : Cell, Arr Z h a c .double ∧ c.slots.size = N ∧ ∀ j, j < N → c.slots[j]? = some (.double (f j))
theorem own_Da.keep {Z : State} {h h' : Heap} {a : Addr} {N : Nat} {f : Nat → UInt64} {ws : List Addr} (S : own_Da Z h a N f) (K : Keep h h' ws) (q : a ∉ ws) : own_Da Z h' a N f := by
  obtain ⟨c, A, r⟩ := S
  exact ⟨c, ⟨K.2.1 a c A.1 q, A.2⟩, r⟩
theorem own_Da.ext {Z : State} {h h' : Heap} {a : Addr} {N : Nat} {f : Nat → UInt64} (S : own_Da Z h a N f) (E : Ext h h') : own_Da Z h' a N f := by
  obtain ⟨c, A, r⟩ := S
  exact ⟨c, A.ext E, r⟩
def own_sum (f : Nat → UInt64) : Nat → UInt64
  | 0 => FP.dconst0
  | k + 1 => FP.dadd (own_sum f k) (f k)
def own_Two (s6 s7 : Slot) : Prop := (s6 = .unset ∧ s7 = .unset) ∨ ∃ w : UInt64, s6 = .val (.double w) ∧ s7 = .second
theorem own_st67 {s0 s6 s7 : Slot} {u1 v : UInt64} {o3 : Addr} {i4 i5 : Int32} (h : own_Two s6 s7) : storeLocals #[s0, .val (.double u1), .second, .val (.ref o3), .val (.int i4), .val (.int i5), s6, s7] 6 (.double v) = some #[s0, .val (.double u1), .second, .val (.ref o3), .val (.int i4), .val (.int i5), .val (.double v), .second] := by
  rcases h with ⟨rfl, rfl⟩ | ⟨w, rfl, rfl⟩ <;> rfl
theorem d7_14 : decode prog_15_method_2_code 14 = .ok (.iload 5, 2) := by decide +kernel
theorem d7_16 : decode prog_15_method_2_code 16 = .ok (.iload 4, 2) := by decide +kernel
theorem d7_18 : decode prog_15_method_2_code 18 = .ok (.if_icmp .ge 20, 3) := by decide +kernel
theorem d7_21 : decode prog_15_method_2_code 21 = .ok (.aload_n 3, 1) := by decide +kernel
theorem d7_22 : decode prog_15_method_2_code 22 = .ok (.iload 5, 2) := by decide +kernel
theorem d7_24 : decode prog_15_method_2_code 24 = .ok (.daload, 1) := by decide +kernel
theorem d7_25 : decode prog_15_method_2_code 25 = .ok (.dstore 6, 2) := by decide +kernel
theorem d7_27 : decode prog_15_method_2_code 27 = .ok (.dload_n 1, 1) := by decide +kernel
theorem d7_28 : decode prog_15_method_2_code 28 = .ok (.dload 6, 2) := by decide +kernel
theorem d7_30 : decode prog_15_method_2_code 30 = .ok (.dadd, 1) := by decide +kernel
theorem d7_31 : decode prog_15_method_2_code 31 = .ok (.dstore_n 1, 1) := by decide +kernel
theorem d7_32 : decode prog_15_method_2_code 32 = .ok (.iinc 5 1, 3) := by decide +kernel
theorem d7_35 : decode prog_15_method_2_code 35 = .ok (.goto (-21), 3) := by decide +kernel
set_option maxRecDepth 65536 in
set_option maxHeartbeats 40000000 in
theorem tn7_14_14 {p : Program} {l : Launch} {e : Env} {R : Room} {s : State} {m : MethodId} {args : Array Value} {below : List Frame} {meth : Method} {c : Code} {T0 : State} {locs : List Loc} {cells slots : Nat} {Z : State} {a0 : Array Value} {h0 : Heap} (s0 : Slot) (u1 : UInt64) (o3 : Addr) (i4 : Int32) (i5 : Int32) (s6 : Slot) (s7 : Slot) (w2 : UInt64) (cl_o3 : Cell)
    (X0 : Stand p l e R s m args below meth c T0 locs cells slots) (hx : p.tables.exec = Jvm.exec) (hZ : Z.Warmed39 s.vm) (hw : ∀ d ∈ tables_1, d.before a0 Z = true) (hby : c.code = prog_15_method_2_code) (hml : c.maxLocals = 8) (hown : s.vm.findClass "com/example/tidegrid/tidegrid/Benchmark$Timed" = some m.cls) (e0 : T0.heap = h0) (Ar_o3 : Arr Z h0 o3 cl_o3 .double) (hin24 : ¬ (i5 < 0 ∨ cl_o3.slots.size ≤ (i5).toNatClampNeg)) (hat24 : cl_o3.slots[(i5).toNatClampNeg]? = some (.double w2)) (hn30 : FP.dadd u1 w2 &&& 0x7fffffffffffffff ≤ 0x7ff0000000000000) (hst : own_Two s6 s7) (hc18 : i5 < i4) :
    ∃ (T' : State), Stand p l e R s m args below meth c T' locs cells slots ∧ T'.heap = h0 ∧
      ∀ target, Steps p.tables e below (T'.setTop (mkF m 14 #[s0, .val (.double (FP.dadd u1 w2)), .second, .val (.ref o3), .val (.int i4), .val (.int (i5 + (1 : Int32))), .val (.double w2), .second] [])) target → Steps p.tables e below (T0.setTop (mkF m 14 #[s0, .val (.double u1), .second, .val (.ref o3), .val (.int i4), .val (.int i5), s6, s7] [])) target := by
  refine ⟨T0, X0, e0, fun target kt => ?_⟩
  show Steps p.tables e below (T0.setTop (mkF m 14 #[s0, .val (.double u1), .second, .val (.ref o3), .val (.int i4), .val (.int i5), s6, s7] [])) _
  refine XS.iload X0.here hx rfl (hb hby d7_14) rfl ?_
  show Steps p.tables e below (T0.setTop (mkF m 16 #[s0, .val (.double u1), .second, .val (.ref o3), .val (.int i4), .val (.int i5), s6, s7] [(.int i5)])) _
  refine XS.iload X0.here hx rfl (hb hby d7_16) rfl ?_
  show Steps p.tables e below (T0.setTop (mkF m 18 #[s0, .val (.double u1), .second, .val (.ref o3), .val (.int i4), .val (.int i5), s6, s7] [(.int i4), (.int i5)])) _
  refine XS.icmpNo X0.here hx rfl (hb hby d7_18) rfl (tlt hc18).2.1 ?_
  show Steps p.tables e below (T0.setTop (mkF m 21 #[s0, .val (.double u1), .second, .val (.ref o3), .val (.int i4), .val (.int i5), s6, s7] [])) _
  refine XS.aloadN X0.here hx rfl (hb hby d7_21) rfl rfl ?_
  show Steps p.tables e below (T0.setTop (mkF m 22 #[s0, .val (.double u1), .second, .val (.ref o3), .val (.int i4), .val (.int i5), s6, s7] [(.ref o3)])) _
  refine XS.iload X0.here hx rfl (hb hby d7_22) rfl ?_
  show Steps p.tables e below (T0.setTop (mkF m 24 #[s0, .val (.double u1), .second, .val (.ref o3), .val (.int i4), .val (.int i5), s6, s7] [(.int i5), (.ref o3)])) _
  refine X0.daload hx (j := i5) (v := (.double w2)) (by rw [e0]; exact Ar_o3.1) (State.isArrayOf_alike hZ.alike Ar_o3.2.1) Ar_o3.2.2 hin24 hat24 (g := (mkF m 24 #[s0, .val (.double u1), .second, .val (.ref o3), .val (.int i4), .val (.int i5), s6, s7] [(.int i5), (.ref o3)])) rfl rfl (hb hby d7_24) _ ?_
  show Steps p.tables e below (T0.setTop (mkF m 25 #[s0, .val (.double u1), .second, .val (.ref o3), .val (.int i4), .val (.int i5), s6, s7] [(.double w2)])) _
  refine own_dstore X0.here hx rfl (hb hby d7_25) rfl (l' := #[s0, .val (.double u1), .second, .val (.ref o3), .val (.int i4), .val (.int i5), .val (.double w2), .second]) (own_st67 hst) ?_
  show Steps p.tables e below (T0.setTop (mkF m 27 #[s0, .val (.double u1), .second, .val (.ref o3), .val (.int i4), .val (.int i5), .val (.double w2), .second] [])) _
  refine own_dloadN X0.here hx rfl (hb hby d7_27) rfl ?_
  show Steps p.tables e below (T0.setTop (mkF m 28 #[s0, .val (.double u1), .second, .val (.ref o3), .val (.int i4), .val (.int i5), .val (.double w2), .second] [(.double u1)])) _
  refine own_dload X0.here hx rfl (hb hby d7_28) rfl ?_
  show Steps p.tables e below (T0.setTop (mkF m 30 #[s0, .val (.double u1), .second, .val (.ref o3), .val (.int i4), .val (.int i5), .val (.double w2), .second] [(.double w2), (.double u1)])) _
  refine own_dadd X0.here hx rfl (hb hby d7_30) rfl hn30 ?_
  show Steps p.tables e below (T0.setTop (mkF m 31 #[s0, .val (.double u1), .second, .val (.ref o3), .val (.int i4), .val (.int i5), .val (.double w2), .second] [(.double (FP.dadd u1 w2))])) _
  refine own_dstoreN X0.here hx rfl (hb hby d7_31) rfl (l' := #[s0, .val (.double (FP.dadd u1 w2)), .second, .val (.ref o3), .val (.int i4), .val (.int i5), .val (.double w2), .second]) rfl ?_
  show Steps p.tables e below (T0.setTop (mkF m 32 #[s0, .val (.double (FP.dadd u1 w2)), .second, .val (.ref o3), .val (.int i4), .val (.int i5), .val (.double w2), .second] [])) _
  refine XS.iinc X0.here hx rfl (hb hby d7_32) rfl (l' := #[s0, .val (.double (FP.dadd u1 w2)), .second, .val (.ref o3), .val (.int i4), .val (.int (i5 + (1 : Int32))), .val (.double w2), .second]) rfl ?_
  show Steps p.tables e below (T0.setTop (mkF m 35 #[s0, .val (.double (FP.dadd u1 w2)), .second, .val (.ref o3), .val (.int i4), .val (.int (i5 + (1 : Int32))), .val (.double w2), .second] [])) _
  refine XS.goto X0.here hx rfl (pc0 := 35) (pc' := 14) rfl (hb hby d7_35) (by decide) (by decide) ?_
  exact kt
set_option maxRecDepth 65536 in
set_option maxHeartbeats 40000000 in
theorem tn7_14_38 {p : Program} {l : Launch} {e : Env} {R : Room} {s : State} {m : MethodId} {args : Array Value} {below : List Frame} {meth : Method} {c : Code} {T0 : State} {locs : List Loc} {cells slots : Nat} {Z : State} {a0 : Array Value} {h0 : Heap} (s0 : Slot) (s1 : Slot) (s2 : Slot) (s3 : Slot) (i4 : Int32) (i5 : Int32) (s6 : Slot) (s7 : Slot)
    (X0 : Stand p l e R s m args below meth c T0 locs cells slots) (hx : p.tables.exec = Jvm.exec) (hZ : Z.Warmed39 s.vm) (hw : ∀ d ∈ tables_1, d.before a0 Z = true) (hby : c.code = prog_15_method_2_code) (hml : c.maxLocals = 8) (hown : s.vm.findClass "com/example/tidegrid/tidegrid/Benchmark$Timed" = some m.cls) (e0 : T0.heap = h0) (hc18 : ¬ (i5 < i4)) :
    ∃ (T' : State), Stand p l e R s m args below meth c T' locs cells slots ∧ T'.heap = h0 ∧
      ∀ target, Steps p.tables e below (T'.setTop (mkF m 38 #[s0, s1, s2, s3, .val (.int i4), .val (.int i5), s6, s7] [])) target → Steps p.tables e below (T0.setTop (mkF m 14 #[s0, s1, s2, s3, .val (.int i4), .val (.int i5), s6, s7] [])) target := by
  refine ⟨T0, X0, e0, fun target kt => ?_⟩
  show Steps p.tables e below (T0.setTop (mkF m 14 #[s0, s1, s2, s3, .val (.int i4), .val (.int i5), s6, s7] [])) _
  refine XS.iload X0.here hx rfl (hb hby d7_14) rfl ?_
  show Steps p.tables e below (T0.setTop (mkF m 16 #[s0, s1, s2, s3, .val (.int i4), .val (.int i5), s6, s7] [(.int i5)])) _
  refine XS.iload X0.here hx rfl (hb hby d7_16) rfl ?_
  show Steps p.tables e below (T0.setTop (mkF m 18 #[s0, s1, s2, s3, .val (.int i4), .val (.int i5), s6, s7] [(.int i4), (.int i5)])) _
  refine XS.icmpYes X0.here hx rfl (pc0 := 18) (pc' := 38) rfl (hb hby d7_18) rfl (flt hc18).2.1 (by decide) (by decide) ?_
  exact kt
theorem own_loop7 {p : Program} {l : Launch} {e : Env} {R : Room} {s : State} {m : MethodId} {args : Array Value} {below : List Frame} {meth : Method} {c : Code} {locs : List Loc} {cells slots : Nat} {Z : State} {a0 : Array Value} {h0 : Heap} (s0 : Slot) (o3 : Addr) (N : Nat) (f : Nat → UInt64) (cl : Cell) (hN : N < 5) (hx : p.tables.exec = Jvm.exec) (hZ : Z.Warmed39 s.vm) (hw : ∀ d ∈ tables_1, d.before a0 Z = true) (hby : c.code = prog_15_method_2_code) (hml : c.maxLocals = 8) (hown : s.vm.findClass "com/example/tidegrid/tidegrid/Benchmark$Timed" = some m.cls) (Ar : Arr Z h0 o3 cl .double) (hS : cl.slots.size = N) (hat : ∀ j, j < N → cl.slots[j]? = some (.double (f j))) (hnum : ∀ j, j < N → FP.dadd (own_sum f j) (f j) &&& 0x7fffffffffffffff ≤ 0x7ff0000000000000) :
    ∀ (k i : Nat), i + k = N → ∀ (T0 : State) (s6 s7 : Slot), Stand p l e R s m args below meth c T0 locs cells slots → T0.heap = h0 → own_Two s6 s7 →
      ∃ (T' : State) (s6' s7' : Slot), Stand p l e R s m args below meth c T' locs cells slots ∧ T'.heap = h0 ∧
        ∀ target, Steps p.tables e below (T'.setTop (mkF m 38 #[s0, .val (.double (own_sum f N)), .second, .val (.ref o3), .val (.int (Int32.ofNat N)), .val (.int (Int32.ofNat N)), s6', s7'] [])) target → Steps p.tables e below (T0.setTop (mkF m 14 #[s0, .val (.double (own_sum f i)), .second, .val (.ref o3), .val (.int (Int32.ofNat N)), .val (.int (Int32.ofNat i)), s6, s7] [])) target := by
  intro k
  induction k with
  | zero =>
    intro i hi T0 s6 s7 X0 e0 h67
    obtain rfl : i = N := by omega
    obtain ⟨T', X', e', st⟩ := tn7_14_38 s0 (.val (.double (own_sum f i))) .second (.val (.ref o3)) (Int32.ofNat i) (Int32.ofNat i) s6 s7 X0 hx hZ hw hby hml hown e0 (own_n i hN).2.2.1
    exact ⟨T', s6, s7, X', e', st⟩
  | succ k ih =>
    intro i hi T0 s6 s7 X0 e0 h67
    have hiN : i < N := by omega
    obtain ⟨b1, b2, b3, b4⟩ := own_i N hN i hiN
    have hin : ¬ (Int32.ofNat i < 0 ∨ cl.slots.size ≤ (Int32.ofNat i).toNatClampNeg) := by rw [b1, hS]; exact fun q => q.elim b2 (by omega)
    have ha : cl.slots[(Int32.ofNat i).toNatClampNeg]? = some (.double (f i)) := by rw [b1]; exact hat i hiN
    obtain ⟨T1, X1, e1, st⟩ := tn7_14_14 s0 (own_sum f i) o3 (Int32.ofNat N) (Int32.ofNat i) s6 s7 (f i) cl X0 hx hZ hw hby hml hown e0 Ar hin ha (hnum i hiN) h67 b3
    rw [b4] at st
    obtain ⟨T', s6', s7', X', e', st'⟩ := ih (i + 1) (by omega) T1 (.val (.double (f i))) .second X1 e1 (Or.inr ⟨f i, rfl, rfl⟩)
    exact ⟨T', s6', s7', X', e', fun t kt => st t (st' t kt)⟩
theorem d7_0 : decode prog_15_method_2_code 0 = .ok (.dconst 0, 1) := by decide +kernel
theorem d7_1 : decode prog_15_method_2_code 1 = .ok (.dstore_n 1, 1) := by decide +kernel
theorem d7_2 : decode prog_15_method_2_code 2 = .ok (.aload_n 0, 1) := by decide +kernel
theorem d7_3 : decode prog_15_method_2_code 3 = .ok (.getfield 7, 3) := by decide +kernel
theorem d7_6 : decode prog_15_method_2_code 6 = .ok (.astore_n 3, 1) := by decide +kernel
theorem d7_7 : decode prog_15_method_2_code 7 = .ok (.aload_n 3, 1) := by decide +kernel
theorem d7_8 : decode prog_15_method_2_code 8 = .ok (.arraylength, 1) := by decide +kernel
theorem d7_9 : decode prog_15_method_2_code 9 = .ok (.istore 4, 2) := by decide +kernel
theorem d7_11 : decode prog_15_method_2_code 11 = .ok (.iconst 0, 1) := by decide +kernel
theorem d7_12 : decode prog_15_method_2_code 12 = .ok (.istore 5, 2) := by decide +kernel
theorem d7_38 : decode prog_15_method_2_code 38 = .ok (.dload_n 1, 1) := by decide +kernel
theorem d7_39 : decode prog_15_method_2_code 39 = .ok (.aload_n 0, 1) := by decide +kernel
theorem d7_40 : decode prog_15_method_2_code 40 = .ok (.getfield 7, 3) := by decide +kernel
theorem d7_43 : decode prog_15_method_2_code 43 = .ok (.arraylength, 1) := by decide +kernel
theorem d7_44 : decode prog_15_method_2_code 44 = .ok (.i2d, 1) := by decide +kernel
theorem d7_45 : decode prog_15_method_2_code 45 = .ok (.ddiv, 1) := by decide +kernel
theorem d7_46 : decode prog_15_method_2_code 46 = .ok (.dreturn, 1) := by decide +kernel
theorem pn_7 : plainName "com/example/tidegrid/tidegrid/Benchmark$Timed" = true := by first | (simp [plainName, overriddenIn]; done) | decide +kernel
theorem ef_7 (m : MethodId) (x0 : Addr) : entryFrame m #[(.ref x0)] 8 = mkF m 0 #[.val (.ref x0), .unset, .unset, .unset, .unset, .unset, .unset, .unset] [] := by first | (simp [entryFrame, mkF, argsToLocals, Value.category]; done) | rfl
set_option maxRecDepth 65536 in
set_option maxHeartbeats 40000000 in
theorem r7 (l : Launch) (Z : State) (a0 : Array Value) (hw : ∀ d ∈ tables_1, d.before a0 Z = true) (ws : List Jvm.Cond) (a1 : Addr) (w2 : Addr) (N : Nat) (f : Nat → UInt64) (h0 : Heap) (n0 : Nat) (Z0 : n0 ≤ h0.size) (hN : N < 5) (F_ms_a1 : Fld Z h0 a1 "com/example/tidegrid/tidegrid/Benchmark$Timed" "ms" "[D" (.ref w2)) (B : own_Da Z h0 w2 N f) (hnum : ∀ j, j < N → FP.dadd (own_sum f j) (f j) &&& 0x7fffffffffffffff ≤ 0x7ff0000000000000) (hdiv : FP.ddiv (own_sum f N) (FP.i2d (Int32.ofNat N)) &&& 0x7fffffffffffffff ≤ 0x7ff0000000000000) :
    MetFree l (⟨"com/example/tidegrid/tidegrid/Benchmark$Timed", "mean", "()D"⟩ : MethodName) (head1 (Jvm.Cond.code (⟨"com/example/tidegrid/tidegrid/Benchmark$Timed", "mean", "()D"⟩ : MethodName) prog_15_method_2_code 8 (some .double) :: ws) ({ frames := 0, cells := 0, slots := 0, locals := 0 } : Room)) (fun a U => a = #[(.ref a1)] ∧ Z.Warmed39 U.vm ∧ U.heap = h0) (fun _ _ _ _ _ => True) (fun _ U o U' => ∃ v L, o = .returned v ∧ QR (some (.double (FP.ddiv (own_sum f N) (FP.i2d (Int32.ofNat N))))) h0 n0 v U'.heap L ∧ FrameEnd U o U' L ({ frames := 0, cells := 0, slots := 0, locals := 0 } : Room).cells ({ frames := 0, cells := 0, slots := 0, locals := 0 } : Room).slots) := by
  obtain ⟨cl, Ar, hS, hat⟩ := B
  refine MetFree.of_bodySF (plainFor_of_name pn_7) hisR ?_
  intro p e s m args below meth c s₁ Bd hml0 hP hK
  obtain ⟨rfl, hZ, hh⟩ := hP
  have hx := Bd.exec
  have hby := Bd.bytes
  have hml : c.maxLocals = 8 := hml0
  have hown : s.vm.findClass "com/example/tidegrid/tidegrid/Benchmark$Timed" = some m.cls := findClass_of_methodNamed Bd.named
  have hnm := (name_of_methodNamed Bd.named Bd.method).1
  have X0 : Stand p l e ({ frames := 0, cells := 0, slots := 0, locals := 0 } : Room) s m #[(.ref a1)] below meth c s₁ [] 0 0 := Stand.of_body Bd
  have e0 : s₁.heap = h0 := by rw [← hh, Bd.state]; rfl
  have N0 := Fr.nil n0
  have pre0 : ∀ t, Steps p.tables e below (s₁.setTop (mkF m 0 #[.val (.ref a1), .unset, .unset, .unset, .unset, .unset, .unset, .unset] [])) t → Steps p.tables e below (s₁.setTop (entryFrame m #[(.ref a1)] 8)) t := fun t k => castTop (ef_7 m a1) k
  obtain ⟨T3, X3, e3, st3⟩ := getF X0 hx hZ hown (host := "") (Or.inl (hw _ (List.mem_of_getElem? (i := 39) rfl))) Via.refl e0 F_ms_a1 (g := (mkF m 3 #[.val (.ref a1), .val (.double FP.dconst0), .second, .unset, .unset, .unset, .unset, .unset] [(.ref a1)])) rfl rfl (hb hby d7_3)
  obtain ⟨TL, s6', s7', XL, eL, stL⟩ := own_loop7 (.val (.ref a1)) w2 N f cl hN hx hZ hw hby hml hown Ar hS hat hnum N 0 (Nat.zero_add _) T3 .unset .unset X3 e3 (Or.inl ⟨rfl, rfl⟩)
  obtain ⟨T4, X4, e4, st4⟩ := getF XL hx hZ hown (host := "") (Or.inl (hw _ (List.mem_of_getElem? (i := 39) rfl))) Via.refl eL F_ms_a1 (g := (mkF m 40 #[.val (.ref a1), .val (.double (own_sum f N)), .second, .val (.ref w2), .val (.int (Int32.ofNat N)), .val (.int (Int32.ofNat N)), s6', s7'] [(.ref a1), (.double (own_sum f N))])) rfl rfl (hb hby d7_40)
  obtain ⟨fs, hr, hrun, hended, hW, hsame⟩ := X4.leave (v := some (.double (FP.ddiv (own_sum f N) (FP.i2d (Int32.ofNat N))))) (fun h => by rw [Bd.returns] at h; cases h)
  refine ⟨_, _, pre0 _ ?_, hrun, hended, _, _, rfl, ?_, ⟨_, rfl⟩, hW, hsame.mono (by decide) (by decide)⟩
  · show Steps p.tables e below (s₁.setTop (mkF m 0 #[.val (.ref a1), .unset, .unset, .unset, .unset, .unset, .unset, .unset] [])) _
    refine own_dconst0 X0.here hx rfl (hb hby d7_0) ?_
    show Steps p.tables e below (s₁.setTop (mkF m 1 #[.val (.ref a1), .unset, .unset, .unset, .unset, .unset, .unset, .unset] [(.double FP.dconst0)])) _
    refine own_dstoreN X0.here hx rfl (hb hby d7_1) rfl (l' := #[.val (.ref a1), .val (.double FP.dconst0), .second, .unset, .unset, .unset, .unset, .unset]) rfl ?_
    show Steps p.tables e below (s₁.setTop (mkF m 2 #[.val (.ref a1), .val (.double FP.dconst0), .second, .unset, .unset, .unset, .unset, .unset] [])) _
    refine XS.aloadN X0.here hx rfl (hb hby d7_2) rfl rfl ?_
    show Steps p.tables e below (s₁.setTop (mkF m 3 #[.val (.ref a1), .val (.double FP.dconst0), .second, .unset, .unset, .unset, .unset, .unset] [(.ref a1)])) _
    refine st3 _ ?_
    show Steps p.tables e below (T3.setTop (mkF m 6 #[.val (.ref a1), .val (.double FP.dconst0), .second, .unset, .unset, .unset, .unset, .unset] [(.ref w2)])) _
    refine XS.astoreN X3.here hx rfl (hb hby d7_6) rfl rfl (l' := #[.val (.ref a1), .val (.double FP.dconst0), .second, .val (.ref w2), .unset, .unset, .unset, .unset]) rfl ?_
    show Steps p.tables e below (T3.setTop (mkF m 7 #[.val (.ref a1), .val (.double FP.dconst0), .second, .val (.ref w2), .unset, .unset, .unset, .unset] [])) _
    refine XS.aloadN X3.here hx rfl (hb hby d7_7) rfl rfl ?_
    show Steps p.tables e below (T3.setTop (mkF m 8 #[.val (.ref a1), .val (.double FP.dconst0), .second, .val (.ref w2), .unset, .unset, .unset, .unset] [(.ref w2)])) _
    refine X3.arraylength hx (by rw [e3]; exact Ar.1) (State.isArrayOf_alike hZ.alike Ar.2.1) (g := (mkF m 8 #[.val (.ref a1), .val (.double FP.dconst0), .second, .val (.ref w2), .unset, .unset, .unset, .unset] [(.ref w2)])) rfl rfl (hb hby d7_8) _ ?_
    rw [len_of (hS.trans (own_n N hN).1.symm) (own_n N hN).2.1]
    show Steps p.tables e below (T3.setTop (mkF m 9 #[.val (.ref a1), .val (.double FP.dconst0), .second, .val (.ref w2), .unset, .unset, .unset, .unset] [(.int (Int32.ofNat N))])) _
    refine XS.istore X3.here hx rfl (hb hby d7_9) rfl (l' := #[.val (.ref a1), .val (.double FP.dconst0), .second, .val (.ref w2), .val (.int (Int32.ofNat N)), .unset, .unset, .unset]) rfl ?_
    show Steps p.tables e below (T3.setTop (mkF m 11 #[.val (.ref a1), .val (.double FP.dconst0), .second, .val (.ref w2), .val (.int (Int32.ofNat N)), .unset, .unset, .unset] [])) _
    refine XS.iconst X3.here hx rfl (hb hby d7_11) ?_
    show Steps p.tables e below (T3.setTop (mkF m 12 #[.val (.ref a1), .val (.double FP.dconst0), .second, .val (.ref w2), .val (.int (Int32.ofNat N)), .unset, .unset, .unset] [(.int (0 : Int32))])) _
    refine XS.istore X3.here hx rfl (hb hby d7_12) rfl (l' := #[.val (.ref a1), .val (.double FP.dconst0), .second, .val (.ref w2), .val (.int (Int32.ofNat N)), .val (.int (0 : Int32)), .unset, .unset]) rfl ?_
    show Steps p.tables e below (T3.setTop (mkF m 14 #[.val (.ref a1), .val (.double FP.dconst0), .second, .val (.ref w2), .val (.int (Int32.ofNat N)), .val (.int (0 : Int32)), .unset, .unset] [])) _
    refine stL _ ?_
    show Steps p.tables e below (TL.setTop (mkF m 38 #[.val (.ref a1), .val (.double (own_sum f N)), .second, .val (.ref w2), .val (.int (Int32.ofNat N)), .val (.int (Int32.ofNat N)), s6', s7'] [])) _
    refine own_dloadN XL.here hx rfl (hb hby d7_38) rfl ?_
    show Steps p.tables e below (TL.setTop (mkF m 39 #[.val (.ref a1), .val (.double (own_sum f N)), .second, .val (.ref w2), .val (.int (Int32.ofNat N)), .val (.int (Int32.ofNat N)), s6', s7'] [(.double (own_sum f N))])) _
    refine XS.aloadN XL.here hx rfl (hb hby d7_39) rfl rfl ?_
    show Steps p.tables e below (TL.setTop (mkF m 40 #[.val (.ref a1), .val (.double (own_sum f N)), .second, .val (.ref w2), .val (.int (Int32.ofNat N)), .val (.int (Int32.ofNat N)), s6', s7'] [(.ref a1), (.double (own_sum f N))])) _
    refine st4 _ ?_
    show Steps p.tables e below (T4.setTop (mkF m 43 #[.val (.ref a1), .val (.double (own_sum f N)), .second, .val (.ref w2), .val (.int (Int32.ofNat N)), .val (.int (Int32.ofNat N)), s6', s7'] [(.ref w2), (.double (own_sum f N))])) _
    refine X4.arraylength hx (by rw [e4]; exact Ar.1) (State.isArrayOf_alike hZ.alike Ar.2.1) (g := (mkF m 43 #[.val (.ref a1), .val (.double (own_sum f N)), .second, .val (.ref w2), .val (.int (Int32.ofNat N)), .val (.int (Int32.ofNat N)), s6', s7'] [(.ref w2), (.double (own_sum f N))])) rfl rfl (hb hby d7_43) _ ?_
    rw [len_of (hS.trans (own_n N hN).1.symm) (own_n N hN).2.1]
    show Steps p.tables e below (T4.setTop (mkF m 44 #[.val (.ref a1), .val (.double (own_sum f N)), .second, .val (.ref w2), .val (.int (Int32.ofNat N)), .val (.int (Int32.ofNat N)), s6', s7'] [(.int (Int32.ofNat N)), (.double (own_sum f N))])) _
    refine own_i2d X4.here hx rfl (hb hby d7_44) rfl ?_
    show Steps p.tables e below (T4.setTop (mkF m 45 #[.val (.ref a1), .val (.double (own_sum f N)), .second, .val (.ref w2), .val (.int (Int32.ofNat N)), .val (.int (Int32.ofNat N)), s6', s7'] [(.double (FP.i2d (Int32.ofNat N))), (.double (own_sum f N))])) _
    refine own_ddiv X4.here hx rfl (hb hby d7_45) rfl hdiv ?_
    show Steps p.tables e below (T4.setTop (mkF m 46 #[.val (.ref a1), .val (.double (own_sum f N)), .second, .val (.ref w2), .val (.int (Int32.ofNat N)), .val (.int (Int32.ofNat N)), s6', s7'] [(.double (FP.ddiv (own_sum f N) (FP.i2d (Int32.ofNat N))))])) _
    jvm_step X4.here [X4.here.top, hx, (hb hby d7_46), X4.method', Bd.returns, narrow]
    first | (intro acts; rw [hr _ acts rfl rfl rfl]) | rw [hr _ _ rfl rfl rfl]
    exact Steps.refl _
  · show QR (some (.double (FP.ddiv (own_sum f N) (FP.i2d (Int32.ofNat N))))) h0 n0 _ T4.heap _
    rw [e4]
    exact ⟨rfl, N0, rfl⟩
theorem own_list {Z : State} {h : Heap} {a : Addr} {k : ClassId} {N : Nat} (ds : List UInt64) (hN : N < 5) (hl : ds.length = N) (V : Arv Z h a k .double (Int32.ofNat N) (ds.map Value.double) (.double 0)) : own_Da Z h a N (fun j => ds.getD j 0) := by
  obtain ⟨c, A, -, S, -, H, -⟩ := V
  rw [(own_n N hN).1] at S
  refine ⟨c, A, S, fun j hj => ?_⟩
  rw [H j (by rw [S]; exact hj)]
  congr 1
  simp only [List.getD_eq_getElem?_getD, List.getElem?_map]
  cases ds[j]? <;> rfl
def own_isum (I : Nat → Int) : Nat → Int
  | 0 => 0
  | k + 1 => own_isum I k + I k
theorem own_isum_le (I : Nat → Int) (h : ∀ j, (I j).natAbs ≤ 2 ^ 31) : ∀ k, (own_isum I k).natAbs ≤ k * 2 ^ 31
  | 0 => by simp [own_isum]
  | k + 1 => by
    have q := own_isum_le I h k
    have r := h k
    show (own_isum I k + I k).natAbs ≤ _
    omega
theorem own_sums (f : Nat → UInt64) (I : Nat → Int) (h : ∀ j, (I j).natAbs ≤ 2 ^ 31) (hf : ∀ j, Jvm.FP.Core.DInt (I j) (f j)) : ∀ k, k ≤ 4 → Jvm.FP.Core.DInt (own_isum I k) (own_sum f k)
  | 0, _ => own_d0
  | k + 1, hk => by
    have q := own_sums f I h hf k (by omega)
    have b := own_isum_le I h (k + 1)
    exact Jvm.FP.Core.dadd_int q (hf k) (by
      have : own_isum I k + I k = own_isum I (k + 1) := rfl
      rw [this]
      have : (k + 1) * 2 ^ 31 ≤ 4 * 2 ^ 31 := Nat.mul_le_mul_right _ hk
      omega)
theorem own_nums (f : Nat → UInt64) (I : Nat → Int) (h : ∀ j, (I j).natAbs ≤ 2 ^ 31) (hf : ∀ j, Jvm.FP.Core.DInt (I j) (f j)) (N : Nat) (hN : N < 5) : ∀ j, j < N → FP.dadd (own_sum f j) (f j) &&& 0x7fffffffffffffff ≤ 0x7ff0000000000000 := fun j hj =>
  own_not_nan (own_dint_num (own_sums f I h hf (j + 1) (by omega)))
def own_ds (as : List Int32) : Nat → UInt64 := fun j => (as.map FP.i2d).getD j 0
def own_is (as : List Int32) : Nat → Int := fun j => (as.map Int32.toInt).getD j 0
theorem own_isb (as : List Int32) : ∀ j, (own_is as j).natAbs ≤ 2 ^ 31 := fun j => by
  simp only [own_is, List.getD_eq_getElem?_getD, List.getElem?_map]
  cases as[j]? with
  | none => simp
  | some v => exact Jvm.FP.Core.int32_abs v
theorem own_dsd (as : List Int32) : ∀ j, Jvm.FP.Core.DInt (own_is as j) (own_ds as j) := fun j => by
  simp only [own_is, own_ds, List.getD_eq_getElem?_getD, List.getElem?_map]
  cases as[j]? with
  | none => exact own_d0
  | some v => exact Jvm.FP.Core.i2d_int v
theorem own_len (N : Nat) (hN : N < 5) : Jvm.FP.Core.DInt (N : Int) (FP.i2d (Int32.ofNat N)) := by
  have q := Jvm.FP.Core.i2d_int (Int32.ofNat N)
  rwa [(own_n N hN).2.2.2] at q
def Q0 (h0 : Heap) (n0 : Nat) (v : Option Value) (h : Heap) (L : List Loc) : Prop := v = some (.int (1 : Int32)) ∧ Fr n0 L
theorem pn_0 : plainName "com/example/tidegrid/tidegrid/TimedMeanPinLaw" = true := by first | (simp [plainName, overriddenIn]; done) | decide +kernel
theorem pd_0_0 : parseMethodDescriptor "()V" = some ⟨[], none⟩ := by decide +kernel
theorem pd_0_1 : parseMethodDescriptor "([DDLjava/util/List;)V" = some ⟨[(.array .double), .double, (.object "java/util/List")], none⟩ := by decide +kernel
theorem pd_0_2 : parseMethodDescriptor "()D" = some ⟨[], some .double⟩ := by decide +kernel
theorem ef_0 (m : MethodId) (x0 : Int32) (x1 : Int32) (x2 : Int32) (x3 : Int32) (x4 : Int32) : entryFrame m #[(.int x0), (.int x1), (.int x2), (.int x3), (.int x4)] maxLocals = mkF m 0 #[.val (.int x0), .val (.int x1), .val (.int x2), .val (.int x3), .val (.int x4), .unset, .unset, .unset, .unset, .unset, .unset, .unset, .unset] [] := by first | (simp [entryFrame, mkF, argsToLocals, Value.category, maxLocals]; done) | rfl
set_option maxRecDepth 65536 in
set_option maxHeartbeats 40000000 in
theorem rm0_1 (l : Launch) (Z : State) (a0 : Array Value) (hw : ∀ d ∈ tables_1, d.before a0 Z = true) (ws : List Jvm.Cond) (p1 p2 p3 p4 p5 : Int32) (w3 : Addr) (h0 : Heap) (n0 : Nat) (Z0 : n0 ≤ h0.size) (S_D : Sta Z Z.heap "java/util/ArrayList" "DEFAULTCAPACITY_EMPTY_ELEMENTDATA" "[Ljava/lang/Object;" (.ref w3)) (X00 : Old Z n0 h0) (hNN : ((p1 &&& (3 : Int32)) + (1 : Int32)) = Int32.ofNat 1) (hc10 : ((p1 &&& (3 : Int32)) + (1 : Int32)) = (1 : Int32)) :
    MetFree l x (head1 (Jvm.Cond.code x code maxLocals ret :: ws) room_1) (fun a U => a = #[(.int p1), (.int p2), (.int p3), (.int p4), (.int p5)] ∧ Z.Warmed39 U.vm ∧ U.heap = h0) (fun _ _ _ _ _ => True) (fun _ U o U' => ∃ v L, o = .returned v ∧ Q0 h0 n0 v U'.heap L ∧ FrameEnd U o U' L room_1.cells room_1.slots) := by
  refine MetFree.of_bodySF (plainFor_of_name pn_0) hisR ?_
  intro p e s m args below meth c s₁ Bd hml0 hP hK
  obtain ⟨rfl, hZ, hh⟩ := hP
  have hx := Bd.exec
  have hby := Bd.bytes
  have hml : c.maxLocals = 13 := hml0
  have hown : s.vm.findClass "com/example/tidegrid/tidegrid/TimedMeanPinLaw" = some m.cls := findClass_of_methodNamed Bd.named
  have hnm := (name_of_methodNamed Bd.named Bd.method).1
  have X0 : Stand p l e room_1 s m #[(.int p1), (.int p2), (.int p3), (.int p4), (.int p5)] below meth c s₁ [] 0 0 := Stand.of_body Bd
  have e0 : s₁.heap = h0 := by rw [← hh, Bd.state]; rfl
  have N0 := Fr.nil n0
  have pre0 : ∀ t, Steps p.tables e below (s₁.setTop (mkF m 0 #[.val (.int p1), .val (.int p2), .val (.int p3), .val (.int p4), .val (.int p5), .unset, .unset, .unset, .unset, .unset, .unset, .unset, .unset] [])) t → Steps p.tables e below (s₁.setTop (entryFrame m #[(.int p1), (.int p2), (.int p3), (.int p4), (.int p5)] maxLocals)) t := fun t k => castTop (ef_0 m p1 p2 p3 p4 p5) k
  obtain ⟨T6, h6, k6, X6, e6, E6, A6, st6⟩ := newP X0 hx hZ (hw _ (List.mem_of_getElem? (i := 0) rfl)) e0 (g := (mkF m 14 #[.val (.int p1), .val (.int p2), .val (.int p3), .val (.int p4), .val (.int p5), .val (.int ((p1 &&& (3 : Int32)) + (1 : Int32))), .unset, .unset, .unset, .unset, .unset, .unset, .unset] [(.int (1 : Int32))])) rfl (hb hby at_14) rfl (by decide) (cap := 1) (by decide) (by decide) (by decide) (by decide)
  obtain ⟨b6, g6⟩ : ∃ z, z = h0.size := ⟨_, rfl⟩
  rw [← g6] at A6 st6
  have V_b6 : Arv Z h6 b6 k6 .double (1 : Int32) [(.double 0)] (.double 0) := (Arv.new A6 (by decide)).pad (pad_rep [] (.double 0) 1)
  have g_b6 : n0 ≤ b6 := Nat.le_trans Z0 (Nat.le_of_eq g6.symm)
  have sz_b6 : h0.size ≤ b6 := (Nat.le_trans (Keep.refl h0 []).1 (Nat.le_of_eq g6.symm))
  have K6 : Keep h0 h6 [] := (Keep.refl h0 []).ext E6
  obtain ⟨cl_b6_20, Ar_b6, q_b6, S_b6, N_b6, H_b6, G_b6⟩ := V_b6
  have hin20 : ¬ ((0 : Int32) < 0 ∨ cl_b6_20.slots.size ≤ ((0 : Int32)).toNatClampNeg) := inb_of S_b6 ⟨by decide, by decide⟩
  obtain ⟨T7, h7, X7, e7, W7, st7⟩ := stD X6 hx hZ e6 Ar_b6 (j := (0 : Int32)) hin20 (g := (mkF m 20 #[.val (.int p1), .val (.int p2), .val (.int p3), .val (.int p4), .val (.int p5), .val (.int ((p1 &&& (3 : Int32)) + (1 : Int32))), .unset, .unset, .unset, .unset, .unset, .unset, .unset] [(.double (FP.i2d p2)), (.int (0 : Int32)), (.ref b6), (.ref b6)])) rfl rfl (hb hby at_20)
  have V_b6_7 := Arv.set Ar_b6 q_b6 S_b6 N_b6 H_b6 G_b6 rfl W7 0 rfl (Nat.le_of_ble_eq_true rfl)
  have K7 : Keep h0 h7 [] := K6.wr W7 (Or.inr sz_b6)
  have N7 := Fr.snoc X7 N0 g_b6
  obtain ⟨T8, h8, X8, e8, E8, A8, D8, -, st8⟩ := newO X7 hx hZ hown (hw _ (List.mem_of_getElem? (i := 1) rfl)) (hw _ (List.mem_of_getElem? (i := 2) rfl)) (hw _ (List.mem_of_getElem? (i := 3) rfl)) e7 (g := (mkF m 140 #[.val (.int p1), .val (.int p2), .val (.int p3), .val (.int p4), .val (.int p5), .val (.int ((p1 &&& (3 : Int32)) + (1 : Int32))), .val (.ref b6), .val (.long (p2.toInt64)), .second, .unset, .unset, .unset, .unset] [])) rfl (hb hby at_140) (by decide) (by decide)
  obtain ⟨b8, g8⟩ : ∃ z, z = h7.size := ⟨_, rfl⟩
  rw [← g8] at A8 D8 st8
  have F_modCount_b8 : Fld Z h8 b8 "java/util/AbstractList" "modCount" "I" (.int (0 : Int32)) := D8 (Or.inl (hw _ (List.mem_of_getElem? (i := 23) rfl))) (ty := .int) (by decide)
  have F_elementData_b8 : Fld Z h8 b8 "java/util/ArrayList" "elementData" "[Ljava/lang/Object;" .null := D8 (Or.inl (hw _ (List.mem_of_getElem? (i := 26) rfl))) (ty := (.array (.object "java/lang/Object"))) (by decide)
  have E_b8 := A8
  have g_b8 : n0 ≤ b8 := Nat.le_trans (Nat.le_trans (Nat.le_trans Z0 E6.1) (Keep.of_wr W7).1) (Nat.le_of_eq g8.symm)
  have sz_b8 : h0.size ≤ b8 := (Nat.le_trans K7.1 (Nat.le_of_eq g8.symm))
  have K8 : Keep h0 h8 [] := K7.ext E8
  have F_mc : Fld Z h8 b8 "java/util/AbstractList" "modCount" "I" (.int (0 : Int32)) := D8 (Or.inl (hw _ (List.mem_of_getElem? (i := 23) rfl))) (ty := .int) (by decide)
  have Xo : Old Z n0 h8 := ((X00.ext E6).wr W7 g_b6).ext E8
  have Za : n0 ≤ h8.size := Nat.le_trans Z0 K8.1
  have B0 : own_Da Z h8 b6 1 (own_ds [p2]) := (own_list (N := 1) ([p2].map FP.i2d) (by decide) rfl V_b6_7).ext E8
  have lt0 : b6 < b8 := Nat.lt_of_lt_of_le (Arv.lt V_b6_7) (Nat.le_of_eq g8.symm)
  obtain ⟨_, _, ⟨T9, L9, k9, n9⟩, -, X9, ⟨Lc9, hQ9, l9, y9, z9⟩, st9⟩ := X8.specialBack hx (y := (⟨"java/util/ArrayList", "<init>", "()V"⟩ : MethodName)) rfl hown (mvT hZ (hw _ (List.mem_of_getElem? (i := 4) rfl))) (mvT hZ (hw _ (List.mem_of_getElem? (i := 5) rfl))) (mvT hZ (hw _ (List.mem_of_getElem? (i := 6) rfl))) (by decide) (backOf (W := 1) (r1 l Z a0 hw [] b8 w3 _ _ h8 n0 Za (S_D.ext Xo.2) E_b8 F_elementData_b8 g_b8 F_mc) hZ (hw _ (List.mem_of_getElem? (i := 6) rfl)) (hw _ (List.mem_of_getElem? (i := 3) rfl)) (by decide) (by decide)) (g := (mkF m 144 #[.val (.int p1), .val (.int p2), .val (.int p3), .val (.int p4), .val (.int p5), .val (.int ((p1 &&& (3 : Int32)) + (1 : Int32))), .val (.ref b6), .val (.long (p2.toInt64)), .second, .unset, .unset, .unset, .unset] [(.ref b8), (.ref b8)])) rfl (by rw [hml]; rfl) (Steps.refl _) (a := b8) (argsL := []) (rest := [(.ref b8)]) (lenOf pd_0_0 rfl) rfl (by show 2 * 0 + _ ≤ _; exact Nat.le_of_eq rfl) (hb hby at_144) (fun _ _ => ⟨rfl, e8, (by decide : 2 + 0 ≤ _), (by decide : 4 + 0 ≤ _)⟩)
  dsimp only [Pt.U, Pt.locs, Pt.cells, Pt.slots] at X9 l9 y9 z9 st9 hQ9
  subst l9 y9 z9
  obtain ⟨rfl, N9q, K9⟩ := hQ9
  have N9 := Fr.app N7 N9q
  have Z9 : n0 ≤ T9.heap.size := Nat.le_trans Za K9.1
  obtain ⟨T10, h10, X10, e10, E10, A10, D10, -, st10⟩ := newO X9 hx hZ hown (hw _ (List.mem_of_getElem? (i := 27) rfl)) (hw _ (List.mem_of_getElem? (i := 28) rfl)) (hw _ (List.mem_of_getElem? (i := 29) rfl)) rfl (g := (mkF m 149 #[.val (.int p1), .val (.int p2), .val (.int p3), .val (.int p4), .val (.int p5), .val (.int ((p1 &&& (3 : Int32)) + (1 : Int32))), .val (.ref b6), .val (.long (p2.toInt64)), .second, .val (.ref b8), .unset, .unset, .unset] [])) rfl (hb hby at_149) (by decide) (by decide)
  obtain ⟨b10, g10⟩ : ∃ z, z = T9.heap.size := ⟨_, rfl⟩
  rw [← g10] at A10 D10 st10
  have F_ms_b10 : Fld Z h10 b10 "com/example/tidegrid/tidegrid/Benchmark$Timed" "ms" "[D" .null := D10 (Or.inr (hw _ (List.mem_of_getElem? (i := 40) rfl))) (ty := (.array .double)) (by decide)
  have F_examinedMean_b10 : Fld Z h10 b10 "com/example/tidegrid/tidegrid/Benchmark$Timed" "examinedMean" "D" (.double 0) := D10 (Or.inr (hw _ (List.mem_of_getElem? (i := 42) rfl))) (ty := .double) (by decide)
  have F_checked_b10 : Fld Z h10 b10 "com/example/tidegrid/tidegrid/Benchmark$Timed" "checked" "Ljava/util/List;" .null := D10 (Or.inr (hw _ (List.mem_of_getElem? (i := 44) rfl))) (ty := (.object "java/util/List")) (by decide)
  have E_b10 := A10
  have g_b10 : n0 ≤ b10 := Nat.le_trans Z9 (Nat.le_of_eq g10.symm)
  have Zt : n0 ≤ h10.size := Nat.le_trans Z9 E10.1
  have B1 : own_Da Z h10 b6 1 (own_ds [p2]) := (B0.keep K9 (ninS (Nat.ne_of_lt lt0) nin0)).ext E10
  have lt1 : b6 < b10 := Nat.lt_of_lt_of_le lt0 (Nat.le_trans (Nat.le_of_lt (Nat.lt_of_lt_of_le E_b8.lt K9.1)) (Nat.le_of_eq g10.symm))
  obtain ⟨_, _, ⟨T11, L11, k11, n11⟩, -, X11, ⟨Lc11, hQ11, l11, y11, z11⟩, st11⟩ := X10.specialBack hx (y := (⟨"com/example/tidegrid/tidegrid/Benchmark$Timed", "<init>", "([DDLjava/util/List;)V"⟩ : MethodName)) rfl hown (mvT hZ (hw _ (List.mem_of_getElem? (i := 30) rfl))) (mvT hZ (hw _ (List.mem_of_getElem? (i := 31) rfl))) (mvT hZ (hw _ (List.mem_of_getElem? (i := 32) rfl))) (by decide) (backOf (W := 1) (r5 l Z a0 hw [] b10 b6 FP.dconst0 b8 _ _ _ h10 n0 Zt E_b10 F_ms_b10 g_b10 F_examinedMean_b10 F_checked_b10) hZ (hw _ (List.mem_of_getElem? (i := 32) rfl)) (hw _ (List.mem_of_getElem? (i := 29) rfl)) (by decide) (by decide)) (g := (mkF m 158 #[.val (.int p1), .val (.int p2), .val (.int p3), .val (.int p4), .val (.int p5), .val (.int ((p1 &&& (3 : Int32)) + (1 : Int32))), .val (.ref b6), .val (.long (p2.toInt64)), .second, .val (.ref b8), .unset, .unset, .unset] [(.ref b8), (.double FP.dconst0), (.ref b6), (.ref b10), (.ref b10)])) rfl (by rw [hml]; rfl) (Steps.refl _) (a := b10) (argsL := [(.ref b6), (.double FP.dconst0), (.ref b8)]) (rest := [(.ref b10)]) (lenOf pd_0_1 rfl) rfl (by show 2 * 0 + _ ≤ _; exact Nat.le_of_eq rfl) (hb hby at_158) (fun _ _ => ⟨rfl, e10, (by decide : 3 + 0 ≤ _), (by decide : 7 + 0 ≤ _)⟩)
  dsimp only [Pt.U, Pt.locs, Pt.cells, Pt.slots] at X11 l11 y11 z11 st11 hQ11
  subst l11 y11 z11
  obtain ⟨rfl, N11q, K11, F11⟩ := hQ11
  have N11 := Fr.app N9 N11q
  obtain ⟨cq12, kq12, q12a, q12b, q12c⟩ := isOf hZ rfl (E_b10.keep K11)
  have Zm : n0 ≤ T11.heap.size := Nat.le_trans Zt K11.1
  have B2 : own_Da Z T11.heap b6 1 (own_ds [p2]) := B1.keep K11 (ninS (Nat.ne_of_lt lt1) nin0)
  have hS1 := own_sums (own_ds [p2]) (own_is [p2]) (own_isb [p2]) (own_dsd [p2]) 1 (by decide)
  have hM := own_not_nan (own_div_num hS1 (by decide) (own_len 1 (by decide)))
  obtain ⟨_, _, ⟨T12, L12, k12, n12⟩, -, X12, ⟨Lc12, hQ12, l12, y12, z12⟩, st12⟩ := X11.virtualBack hx (y := (⟨"com/example/tidegrid/tidegrid/Benchmark$Timed", "mean", "()D"⟩ : MethodName)) (z := (⟨"com/example/tidegrid/tidegrid/Benchmark$Timed", "mean", "()D"⟩ : MethodName)) hown (mvT hZ (hw _ (List.mem_of_getElem? (i := 45) rfl))) (mvT hZ (hw _ (List.mem_of_getElem? (i := 46) rfl))) (notFace_of_selects (args := #[]) (mvT hZ (hw _ (List.mem_of_getElem? (i := 48) rfl)))) (mvT hZ (hw _ (List.mem_of_getElem? (i := 48) rfl))) (mvT hZ (hw _ (List.mem_of_getElem? (i := 47) rfl))) (by decide) (backOf (W := 0) (r7 l Z a0 hw [] b10 b6 1 (own_ds [p2]) T11.heap n0 Zm (by decide) F11 B2 (own_nums (own_ds [p2]) (own_is [p2]) (own_isb [p2]) (own_dsd [p2]) 1 (by decide)) hM) hZ (hw _ (List.mem_of_getElem? (i := 49) rfl)) (hw _ (List.mem_of_getElem? (i := 29) rfl)) (by decide) (by decide)) q12a q12c (g := (mkF m 174 #[.val (.int p1), .val (.int p2), .val (.int p3), .val (.int p4), .val (.int p5), .val (.int ((p1 &&& (3 : Int32)) + (1 : Int32))), .val (.ref b6), .val (.long (p2.toInt64)), .second, .val (.ref b8), .val (.ref b10), .val (.double (FP.ddiv (FP.l2d (p2.toInt64)) (FP.i2d ((p1 &&& (3 : Int32)) + (1 : Int32))))), .second] [(.ref b10)])) rfl (by rw [hml]; rfl) (Steps.refl _) (argsL := []) (rest := []) (lenOf pd_0_2 rfl) rfl (by show 2 * 0 + _ ≤ _; exact Nat.le_of_eq rfl) (hb hby at_174) (fun _ _ => ⟨rfl, rfl, (by decide : 3 + 0 ≤ _), (by decide : 7 + 0 ≤ _)⟩)
  dsimp only [Pt.U, Pt.locs, Pt.cells, Pt.slots] at X12 l12 y12 z12 st12 hQ12
  subst l12 y12 z12
  obtain ⟨rfl, N12q, e12⟩ := hQ12
  have N12 := Fr.app N11 N12q
  have hL : ((p2.toInt64) : Int64).toInt = own_isum (own_is [p2]) 1 := by
    show _ = 0 + p2.toInt
    have i0 := c_i2l p2
    have r0 := rng32 p2
    omega
  have hLb := own_isum_le (own_is [p2]) (own_isb [p2]) 1
  have hD : Jvm.FP.Core.DInt (own_isum (own_is [p2]) 1) (FP.l2d (p2.toInt64)) := by
    rw [← hL]
    exact Jvm.FP.Core.l2d_int (by rw [hL]; omega)
  have hE : (FP.ddiv (FP.l2d (p2.toInt64)) (FP.i2d ((p1 &&& (3 : Int32)) + (1 : Int32)))) &&& 0x7fffffffffffffff ≤ 0x7ff0000000000000 := by
    rw [hNN]
    exact own_not_nan (own_div_num hD (by decide) (own_len 1 (by decide)))
  have hC : cmpValue (FP.dcmp (FP.ddiv (own_sum (own_ds [p2]) 1) (FP.i2d (Int32.ofNat 1))) (FP.ddiv (FP.l2d (p2.toInt64)) (FP.i2d ((p1 &&& (3 : Int32)) + (1 : Int32))))) .l = 0 := by
    rw [hNN, own_same_mean hS1 hD (by decide) (own_len 1 (by decide))]
    rfl
  obtain ⟨fs, hr, hrun, hended, hW, hsame⟩ := X12.leave (v := some (.int (1 : Int32))) (fun h => by rw [Bd.returns] at h; cases h)
  refine ⟨_, _, pre0 _ ?_, hrun, hended, _, _, rfl, ?_, ⟨_, rfl⟩, hW, hsame.mono (by decide) (by decide)⟩
  · show Steps p.tables e below (s₁.setTop (mkF m 0 #[.val (.int p1), .val (.int p2), .val (.int p3), .val (.int p4), .val (.int p5), .unset, .unset, .unset, .unset, .unset, .unset, .unset, .unset] [])) _
    refine XS.iloadN X0.here hx rfl (hb hby at_0) rfl ?_
    show Steps p.tables e below (s₁.setTop (mkF m 1 #[.val (.int p1), .val (.int p2), .val (.int p3), .val (.int p4), .val (.int p5), .unset, .unset, .unset, .unset, .unset, .unset, .unset, .unset] [(.int p1)])) _
    refine XS.iconst X0.here hx rfl (hb hby at_1) ?_
    show Steps p.tables e below (s₁.setTop (mkF m 2 #[.val (.int p1), .val (.int p2), .val (.int p3), .val (.int p4), .val (.int p5), .unset, .unset, .unset, .unset, .unset, .unset, .unset, .unset] [(.int (3 : Int32)), (.int p1)])) _
    refine XS.iand X0.here hx rfl (hb hby at_2) rfl ?_
    show Steps p.tables e below (s₁.setTop (mkF m 3 #[.val (.int p1), .val (.int p2), .val (.int p3), .val (.int p4), .val (.int p5), .unset, .unset, .unset, .unset, .unset, .unset, .unset, .unset] [(.int (p1 &&& (3 : Int32)))])) _
    refine XS.iconst X0.here hx rfl (hb hby at_3) ?_
    show Steps p.tables e below (s₁.setTop (mkF m 4 #[.val (.int p1), .val (.int p2), .val (.int p3), .val (.int p4), .val (.int p5), .unset, .unset, .unset, .unset, .unset, .unset, .unset, .unset] [(.int (1 : Int32)), (.int (p1 &&& (3 : Int32)))])) _
    refine XS.iadd X0.here hx rfl (hb hby at_4) rfl ?_
    show Steps p.tables e below (s₁.setTop (mkF m 5 #[.val (.int p1), .val (.int p2), .val (.int p3), .val (.int p4), .val (.int p5), .unset, .unset, .unset, .unset, .unset, .unset, .unset, .unset] [(.int ((p1 &&& (3 : Int32)) + (1 : Int32)))])) _
    refine XS.istore X0.here hx rfl (hb hby at_5) rfl (l' := #[.val (.int p1), .val (.int p2), .val (.int p3), .val (.int p4), .val (.int p5), .val (.int ((p1 &&& (3 : Int32)) + (1 : Int32))), .unset, .unset, .unset, .unset, .unset, .unset, .unset]) rfl ?_
    show Steps p.tables e below (s₁.setTop (mkF m 7 #[.val (.int p1), .val (.int p2), .val (.int p3), .val (.int p4), .val (.int p5), .val (.int ((p1 &&& (3 : Int32)) + (1 : Int32))), .unset, .unset, .unset, .unset, .unset, .unset, .unset] [])) _
    refine XS.iload X0.here hx rfl (hb hby at_7) rfl ?_
    show Steps p.tables e below (s₁.setTop (mkF m 9 #[.val (.int p1), .val (.int p2), .val (.int p3), .val (.int p4), .val (.int p5), .val (.int ((p1 &&& (3 : Int32)) + (1 : Int32))), .unset, .unset, .unset, .unset, .unset, .unset, .unset] [(.int ((p1 &&& (3 : Int32)) + (1 : Int32)))])) _
    refine XS.iconst X0.here hx rfl (hb hby at_9) ?_
    show Steps p.tables e below (s₁.setTop (mkF m 10 #[.val (.int p1), .val (.int p2), .val (.int p3), .val (.int p4), .val (.int p5), .val (.int ((p1 &&& (3 : Int32)) + (1 : Int32))), .unset, .unset, .unset, .unset, .unset, .unset, .unset] [(.int (1 : Int32)), (.int ((p1 &&& (3 : Int32)) + (1 : Int32)))])) _
    refine XS.icmpNo X0.here hx rfl (hb hby at_10) rfl (teq hc10).2 ?_
    show Steps p.tables e below (s₁.setTop (mkF m 13 #[.val (.int p1), .val (.int p2), .val (.int p3), .val (.int p4), .val (.int p5), .val (.int ((p1 &&& (3 : Int32)) + (1 : Int32))), .unset, .unset, .unset, .unset, .unset, .unset, .unset] [])) _
    refine XS.iconst X0.here hx rfl (hb hby at_13) ?_
    show Steps p.tables e below (s₁.setTop (mkF m 14 #[.val (.int p1), .val (.int p2), .val (.int p3), .val (.int p4), .val (.int p5), .val (.int ((p1 &&& (3 : Int32)) + (1 : Int32))), .unset, .unset, .unset, .unset, .unset, .unset, .unset] [(.int (1 : Int32))])) _
    refine st6 _ ?_
    show Steps p.tables e below (T6.setTop (mkF m 16 #[.val (.int p1), .val (.int p2), .val (.int p3), .val (.int p4), .val (.int p5), .val (.int ((p1 &&& (3 : Int32)) + (1 : Int32))), .unset, .unset, .unset, .unset, .unset, .unset, .unset] [(.ref b6)])) _
    refine XS.dup X6.here hx rfl (hb hby at_16) rfl rfl ?_
    show Steps p.tables e below (T6.setTop (mkF m 17 #[.val (.int p1), .val (.int p2), .val (.int p3), .val (.int p4), .val (.int p5), .val (.int ((p1 &&& (3 : Int32)) + (1 : Int32))), .unset, .unset, .unset, .unset, .unset, .unset, .unset] [(.ref b6), (.ref b6)])) _
    refine XS.iconst X6.here hx rfl (hb hby at_17) ?_
    show Steps p.tables e below (T6.setTop (mkF m 18 #[.val (.int p1), .val (.int p2), .val (.int p3), .val (.int p4), .val (.int p5), .val (.int ((p1 &&& (3 : Int32)) + (1 : Int32))), .unset, .unset, .unset, .unset, .unset, .unset, .unset] [(.int (0 : Int32)), (.ref b6), (.ref b6)])) _
    refine XS.iloadN X6.here hx rfl (hb hby at_18) rfl ?_
    show Steps p.tables e below (T6.setTop (mkF m 19 #[.val (.int p1), .val (.int p2), .val (.int p3), .val (.int p4), .val (.int p5), .val (.int ((p1 &&& (3 : Int32)) + (1 : Int32))), .unset, .unset, .unset, .unset, .unset, .unset, .unset] [(.int p2), (.int (0 : Int32)), (.ref b6), (.ref b6)])) _
    refine own_i2d X6.here hx rfl (hb hby at_19) rfl ?_
    show Steps p.tables e below (T6.setTop (mkF m 20 #[.val (.int p1), .val (.int p2), .val (.int p3), .val (.int p4), .val (.int p5), .val (.int ((p1 &&& (3 : Int32)) + (1 : Int32))), .unset, .unset, .unset, .unset, .unset, .unset, .unset] [(.double (FP.i2d p2)), (.int (0 : Int32)), (.ref b6), (.ref b6)])) _
    refine st7 _ ?_
    show Steps p.tables e below (T7.setTop (mkF m 21 #[.val (.int p1), .val (.int p2), .val (.int p3), .val (.int p4), .val (.int p5), .val (.int ((p1 &&& (3 : Int32)) + (1 : Int32))), .unset, .unset, .unset, .unset, .unset, .unset, .unset] [(.ref b6)])) _
    refine XS.astore X7.here hx rfl (hb hby at_21) rfl rfl (l' := #[.val (.int p1), .val (.int p2), .val (.int p3), .val (.int p4), .val (.int p5), .val (.int ((p1 &&& (3 : Int32)) + (1 : Int32))), .val (.ref b6), .unset, .unset, .unset, .unset, .unset, .unset]) rfl ?_
    show Steps p.tables e below (T7.setTop (mkF m 23 #[.val (.int p1), .val (.int p2), .val (.int p3), .val (.int p4), .val (.int p5), .val (.int ((p1 &&& (3 : Int32)) + (1 : Int32))), .val (.ref b6), .unset, .unset, .unset, .unset, .unset, .unset] [])) _
    refine XS.iloadN X7.here hx rfl (hb hby at_23) rfl ?_
    show Steps p.tables e below (T7.setTop (mkF m 24 #[.val (.int p1), .val (.int p2), .val (.int p3), .val (.int p4), .val (.int p5), .val (.int ((p1 &&& (3 : Int32)) + (1 : Int32))), .val (.ref b6), .unset, .unset, .unset, .unset, .unset, .unset] [(.int p2)])) _
    refine XS.i2l X7.here hx rfl (hb hby at_24) rfl ?_
    show Steps p.tables e below (T7.setTop (mkF m 25 #[.val (.int p1), .val (.int p2), .val (.int p3), .val (.int p4), .val (.int p5), .val (.int ((p1 &&& (3 : Int32)) + (1 : Int32))), .val (.ref b6), .unset, .unset, .unset, .unset, .unset, .unset] [(.long (p2.toInt64))])) _
    refine XS.lstore X7.here hx rfl (hb hby at_25) rfl (l' := #[.val (.int p1), .val (.int p2), .val (.int p3), .val (.int p4), .val (.int p5), .val (.int ((p1 &&& (3 : Int32)) + (1 : Int32))), .val (.ref b6), .val (.long (p2.toInt64)), .second, .unset, .unset, .unset, .unset]) rfl ?_
    show Steps p.tables e below (T7.setTop (mkF m 27 #[.val (.int p1), .val (.int p2), .val (.int p3), .val (.int p4), .val (.int p5), .val (.int ((p1 &&& (3 : Int32)) + (1 : Int32))), .val (.ref b6), .val (.long (p2.toInt64)), .second, .unset, .unset, .unset, .unset] [])) _
    refine XS.goto X7.here hx rfl (pc0 := 27) (pc' := 140) rfl (hb hby at_27) (by decide) (by decide) ?_
    show Steps p.tables e below (T7.setTop (mkF m 140 #[.val (.int p1), .val (.int p2), .val (.int p3), .val (.int p4), .val (.int p5), .val (.int ((p1 &&& (3 : Int32)) + (1 : Int32))), .val (.ref b6), .val (.long (p2.toInt64)), .second, .unset, .unset, .unset, .unset] [])) _
    refine st8 _ ?_
    show Steps p.tables e below (T8.setTop (mkF m 143 #[.val (.int p1), .val (.int p2), .val (.int p3), .val (.int p4), .val (.int p5), .val (.int ((p1 &&& (3 : Int32)) + (1 : Int32))), .val (.ref b6), .val (.long (p2.toInt64)), .second, .unset, .unset, .unset, .unset] [(.ref b8)])) _
    refine XS.dup X8.here hx rfl (hb hby at_143) rfl rfl ?_
    show Steps p.tables e below (T8.setTop (mkF m 144 #[.val (.int p1), .val (.int p2), .val (.int p3), .val (.int p4), .val (.int p5), .val (.int ((p1 &&& (3 : Int32)) + (1 : Int32))), .val (.ref b6), .val (.long (p2.toInt64)), .second, .unset, .unset, .unset, .unset] [(.ref b8), (.ref b8)])) _
    refine st9.trans ?_
    show Steps p.tables e below (T9.setTop (mkF m 147 #[.val (.int p1), .val (.int p2), .val (.int p3), .val (.int p4), .val (.int p5), .val (.int ((p1 &&& (3 : Int32)) + (1 : Int32))), .val (.ref b6), .val (.long (p2.toInt64)), .second, .unset, .unset, .unset, .unset] [(.ref b8)])) _
    refine XS.astore X9.here hx rfl (hb hby at_147) rfl rfl (l' := #[.val (.int p1), .val (.int p2), .val (.int p3), .val (.int p4), .val (.int p5), .val (.int ((p1 &&& (3 : Int32)) + (1 : Int32))), .val (.ref b6), .val (.long (p2.toInt64)), .second, .val (.ref b8), .unset, .unset, .unset]) rfl ?_
    show Steps p.tables e below (T9.setTop (mkF m 149 #[.val (.int p1), .val (.int p2), .val (.int p3), .val (.int p4), .val (.int p5), .val (.int ((p1 &&& (3 : Int32)) + (1 : Int32))), .val (.ref b6), .val (.long (p2.toInt64)), .second, .val (.ref b8), .unset, .unset, .unset] [])) _
    refine st10 _ ?_
    show Steps p.tables e below (T10.setTop (mkF m 152 #[.val (.int p1), .val (.int p2), .val (.int p3), .val (.int p4), .val (.int p5), .val (.int ((p1 &&& (3 : Int32)) + (1 : Int32))), .val (.ref b6), .val (.long (p2.toInt64)), .second, .val (.ref b8), .unset, .unset, .unset] [(.ref b10)])) _
    refine XS.dup X10.here hx rfl (hb hby at_152) rfl rfl ?_
    show Steps p.tables e below (T10.setTop (mkF m 153 #[.val (.int p1), .val (.int p2), .val (.int p3), .val (.int p4), .val (.int p5), .val (.int ((p1 &&& (3 : Int32)) + (1 : Int32))), .val (.ref b6), .val (.long (p2.toInt64)), .second, .val (.ref b8), .unset, .unset, .unset] [(.ref b10), (.ref b10)])) _
    refine XS.aload X10.here hx rfl (hb hby at_153) rfl rfl ?_
    show Steps p.tables e below (T10.setTop (mkF m 155 #[.val (.int p1), .val (.int p2), .val (.int p3), .val (.int p4), .val (.int p5), .val (.int ((p1 &&& (3 : Int32)) + (1 : Int32))), .val (.ref b6), .val (.long (p2.toInt64)), .second, .val (.ref b8), .unset, .unset, .unset] [(.ref b6), (.ref b10), (.ref b10)])) _
    refine own_dconst0 X10.here hx rfl (hb hby at_155) ?_
    show Steps p.tables e below (T10.setTop (mkF m 156 #[.val (.int p1), .val (.int p2), .val (.int p3), .val (.int p4), .val (.int p5), .val (.int ((p1 &&& (3 : Int32)) + (1 : Int32))), .val (.ref b6), .val (.long (p2.toInt64)), .second, .val (.ref b8), .unset, .unset, .unset] [(.double FP.dconst0), (.ref b6), (.ref b10), (.ref b10)])) _
    refine XS.aload X10.here hx rfl (hb hby at_156) rfl rfl ?_
    show Steps p.tables e below (T10.setTop (mkF m 158 #[.val (.int p1), .val (.int p2), .val (.int p3), .val (.int p4), .val (.int p5), .val (.int ((p1 &&& (3 : Int32)) + (1 : Int32))), .val (.ref b6), .val (.long (p2.toInt64)), .second, .val (.ref b8), .unset, .unset, .unset] [(.ref b8), (.double FP.dconst0), (.ref b6), (.ref b10), (.ref b10)])) _
    refine st11.trans ?_
    show Steps p.tables e below (T11.setTop (mkF m 161 #[.val (.int p1), .val (.int p2), .val (.int p3), .val (.int p4), .val (.int p5), .val (.int ((p1 &&& (3 : Int32)) + (1 : Int32))), .val (.ref b6), .val (.long (p2.toInt64)), .second, .val (.ref b8), .unset, .unset, .unset] [(.ref b10)])) _
    refine XS.astore X11.here hx rfl (hb hby at_161) rfl rfl (l' := #[.val (.int p1), .val (.int p2), .val (.int p3), .val (.int p4), .val (.int p5), .val (.int ((p1 &&& (3 : Int32)) + (1 : Int32))), .val (.ref b6), .val (.long (p2.toInt64)), .second, .val (.ref b8), .val (.ref b10), .unset, .unset]) rfl ?_
    show Steps p.tables e below (T11.setTop (mkF m 163 #[.val (.int p1), .val (.int p2), .val (.int p3), .val (.int p4), .val (.int p5), .val (.int ((p1 &&& (3 : Int32)) + (1 : Int32))), .val (.ref b6), .val (.long (p2.toInt64)), .second, .val (.ref b8), .val (.ref b10), .unset, .unset] [])) _
    refine XS.lload X11.here hx rfl (hb hby at_163) rfl ?_
    show Steps p.tables e below (T11.setTop (mkF m 165 #[.val (.int p1), .val (.int p2), .val (.int p3), .val (.int p4), .val (.int p5), .val (.int ((p1 &&& (3 : Int32)) + (1 : Int32))), .val (.ref b6), .val (.long (p2.toInt64)), .second, .val (.ref b8), .val (.ref b10), .unset, .unset] [(.long (p2.toInt64))])) _
    refine own_l2d X11.here hx rfl (hb hby at_165) rfl ?_
    show Steps p.tables e below (T11.setTop (mkF m 166 #[.val (.int p1), .val (.int p2), .val (.int p3), .val (.int p4), .val (.int p5), .val (.int ((p1 &&& (3 : Int32)) + (1 : Int32))), .val (.ref b6), .val (.long (p2.toInt64)), .second, .val (.ref b8), .val (.ref b10), .unset, .unset] [(.double (FP.l2d (p2.toInt64)))])) _
    refine XS.iload X11.here hx rfl (hb hby at_166) rfl ?_
    show Steps p.tables e below (T11.setTop (mkF m 168 #[.val (.int p1), .val (.int p2), .val (.int p3), .val (.int p4), .val (.int p5), .val (.int ((p1 &&& (3 : Int32)) + (1 : Int32))), .val (.ref b6), .val (.long (p2.toInt64)), .second, .val (.ref b8), .val (.ref b10), .unset, .unset] [(.int ((p1 &&& (3 : Int32)) + (1 : Int32))), (.double (FP.l2d (p2.toInt64)))])) _
    refine own_i2d X11.here hx rfl (hb hby at_168) rfl ?_
    show Steps p.tables e below (T11.setTop (mkF m 169 #[.val (.int p1), .val (.int p2), .val (.int p3), .val (.int p4), .val (.int p5), .val (.int ((p1 &&& (3 : Int32)) + (1 : Int32))), .val (.ref b6), .val (.long (p2.toInt64)), .second, .val (.ref b8), .val (.ref b10), .unset, .unset] [(.double (FP.i2d ((p1 &&& (3 : Int32)) + (1 : Int32)))), (.double (FP.l2d (p2.toInt64)))])) _
    refine own_ddiv X11.here hx rfl (hb hby at_169) rfl hE ?_
    show Steps p.tables e below (T11.setTop (mkF m 170 #[.val (.int p1), .val (.int p2), .val (.int p3), .val (.int p4), .val (.int p5), .val (.int ((p1 &&& (3 : Int32)) + (1 : Int32))), .val (.ref b6), .val (.long (p2.toInt64)), .second, .val (.ref b8), .val (.ref b10), .unset, .unset] [(.double (FP.ddiv (FP.l2d (p2.toInt64)) (FP.i2d ((p1 &&& (3 : Int32)) + (1 : Int32)))))])) _
    refine own_dstore X11.here hx rfl (hb hby at_170) rfl (l' := #[.val (.int p1), .val (.int p2), .val (.int p3), .val (.int p4), .val (.int p5), .val (.int ((p1 &&& (3 : Int32)) + (1 : Int32))), .val (.ref b6), .val (.long (p2.toInt64)), .second, .val (.ref b8), .val (.ref b10), .val (.double (FP.ddiv (FP.l2d (p2.toInt64)) (FP.i2d ((p1 &&& (3 : Int32)) + (1 : Int32))))), .second]) rfl ?_
    show Steps p.tables e below (T11.setTop (mkF m 172 #[.val (.int p1), .val (.int p2), .val (.int p3), .val (.int p4), .val (.int p5), .val (.int ((p1 &&& (3 : Int32)) + (1 : Int32))), .val (.ref b6), .val (.long (p2.toInt64)), .second, .val (.ref b8), .val (.ref b10), .val (.double (FP.ddiv (FP.l2d (p2.toInt64)) (FP.i2d ((p1 &&& (3 : Int32)) + (1 : Int32))))), .second] [])) _
    refine XS.aload X11.here hx rfl (hb hby at_172) rfl rfl ?_
    show Steps p.tables e below (T11.setTop (mkF m 174 #[.val (.int p1), .val (.int p2), .val (.int p3), .val (.int p4), .val (.int p5), .val (.int ((p1 &&& (3 : Int32)) + (1 : Int32))), .val (.ref b6), .val (.long (p2.toInt64)), .second, .val (.ref b8), .val (.ref b10), .val (.double (FP.ddiv (FP.l2d (p2.toInt64)) (FP.i2d ((p1 &&& (3 : Int32)) + (1 : Int32))))), .second] [(.ref b10)])) _
    refine st12.trans ?_
    show Steps p.tables e below (T12.setTop (mkF m 177 #[.val (.int p1), .val (.int p2), .val (.int p3), .val (.int p4), .val (.int p5), .val (.int ((p1 &&& (3 : Int32)) + (1 : Int32))), .val (.ref b6), .val (.long (p2.toInt64)), .second, .val (.ref b8), .val (.ref b10), .val (.double (FP.ddiv (FP.l2d (p2.toInt64)) (FP.i2d ((p1 &&& (3 : Int32)) + (1 : Int32))))), .second] [(.double (FP.ddiv (own_sum (own_ds [p2]) 1) (FP.i2d (Int32.ofNat 1))))])) _
    refine own_dload X12.here hx rfl (hb hby at_177) rfl ?_
    show Steps p.tables e below (T12.setTop (mkF m 179 #[.val (.int p1), .val (.int p2), .val (.int p3), .val (.int p4), .val (.int p5), .val (.int ((p1 &&& (3 : Int32)) + (1 : Int32))), .val (.ref b6), .val (.long (p2.toInt64)), .second, .val (.ref b8), .val (.ref b10), .val (.double (FP.ddiv (FP.l2d (p2.toInt64)) (FP.i2d ((p1 &&& (3 : Int32)) + (1 : Int32))))), .second] [(.double (FP.ddiv (FP.l2d (p2.toInt64)) (FP.i2d ((p1 &&& (3 : Int32)) + (1 : Int32))))), (.double (FP.ddiv (own_sum (own_ds [p2]) 1) (FP.i2d (Int32.ofNat 1))))])) _
    refine own_dcmp X12.here hx rfl (hb hby at_179) rfl (k := 0) hC ?_
    show Steps p.tables e below (T12.setTop (mkF m 180 #[.val (.int p1), .val (.int p2), .val (.int p3), .val (.int p4), .val (.int p5), .val (.int ((p1 &&& (3 : Int32)) + (1 : Int32))), .val (.ref b6), .val (.long (p2.toInt64)), .second, .val (.ref b8), .val (.ref b10), .val (.double (FP.ddiv (FP.l2d (p2.toInt64)) (FP.i2d ((p1 &&& (3 : Int32)) + (1 : Int32))))), .second] [(.int (0 : Int32))])) _
    refine XS.ifNo X12.here hx rfl (hb hby at_180) rfl ((if0 _ _).trans (teq (rfl : (0 : Int32) = (0 : Int32))).2) ?_
    show Steps p.tables e below (T12.setTop (mkF m 183 #[.val (.int p1), .val (.int p2), .val (.int p3), .val (.int p4), .val (.int p5), .val (.int ((p1 &&& (3 : Int32)) + (1 : Int32))), .val (.ref b6), .val (.long (p2.toInt64)), .second, .val (.ref b8), .val (.ref b10), .val (.double (FP.ddiv (FP.l2d (p2.toInt64)) (FP.i2d ((p1 &&& (3 : Int32)) + (1 : Int32))))), .second] [])) _
    refine XS.iconst X12.here hx rfl (hb hby at_183) ?_
    show Steps p.tables e below (T12.setTop (mkF m 184 #[.val (.int p1), .val (.int p2), .val (.int p3), .val (.int p4), .val (.int p5), .val (.int ((p1 &&& (3 : Int32)) + (1 : Int32))), .val (.ref b6), .val (.long (p2.toInt64)), .second, .val (.ref b8), .val (.ref b10), .val (.double (FP.ddiv (FP.l2d (p2.toInt64)) (FP.i2d ((p1 &&& (3 : Int32)) + (1 : Int32))))), .second] [(.int (1 : Int32))])) _
    refine XS.goto X12.here hx rfl (pc0 := 184) (pc' := 188) rfl (hb hby at_184) (by decide) (by decide) ?_
    show Steps p.tables e below (T12.setTop (mkF m 188 #[.val (.int p1), .val (.int p2), .val (.int p3), .val (.int p4), .val (.int p5), .val (.int ((p1 &&& (3 : Int32)) + (1 : Int32))), .val (.ref b6), .val (.long (p2.toInt64)), .second, .val (.ref b8), .val (.ref b10), .val (.double (FP.ddiv (FP.l2d (p2.toInt64)) (FP.i2d ((p1 &&& (3 : Int32)) + (1 : Int32))))), .second] [(.int (1 : Int32))])) _
    exact retN X12 hx (t := .boolean) Bd.returns (by simp) (hb hby at_188) hr
  · show Q0 h0 n0 _ T12.heap _
    exact ⟨rfl, N12⟩
set_option maxRecDepth 65536 in
set_option maxHeartbeats 40000000 in
theorem rm0_2 (l : Launch) (Z : State) (a0 : Array Value) (hw : ∀ d ∈ tables_1, d.before a0 Z = true) (ws : List Jvm.Cond) (p1 p2 p3 p4 p5 : Int32) (w3 : Addr) (h0 : Heap) (n0 : Nat) (Z0 : n0 ≤ h0.size) (S_D : Sta Z Z.heap "java/util/ArrayList" "DEFAULTCAPACITY_EMPTY_ELEMENTDATA" "[Ljava/lang/Object;" (.ref w3)) (X00 : Old Z n0 h0) (hNN : ((p1 &&& (3 : Int32)) + (1 : Int32)) = Int32.ofNat 2) (hc10 : ¬ (((p1 &&& (3 : Int32)) + (1 : Int32)) = (1 : Int32))) (hc33 : ((p1 &&& (3 : Int32)) + (1 : Int32)) = (2 : Int32)) :
    MetFree l x (head1 (Jvm.Cond.code x code maxLocals ret :: ws) room_1) (fun a U => a = #[(.int p1), (.int p2), (.int p3), (.int p4), (.int p5)] ∧ Z.Warmed39 U.vm ∧ U.heap = h0) (fun _ _ _ _ _ => True) (fun _ U o U' => ∃ v L, o = .returned v ∧ Q0 h0 n0 v U'.heap L ∧ FrameEnd U o U' L room_1.cells room_1.slots) := by
  refine MetFree.of_bodySF (plainFor_of_name pn_0) hisR ?_
  intro p e s m args below meth c s₁ Bd hml0 hP hK
  obtain ⟨rfl, hZ, hh⟩ := hP
  have hx := Bd.exec
  have hby := Bd.bytes
  have hml : c.maxLocals = 13 := hml0
  have hown : s.vm.findClass "com/example/tidegrid/tidegrid/TimedMeanPinLaw" = some m.cls := findClass_of_methodNamed Bd.named
  have hnm := (name_of_methodNamed Bd.named Bd.method).1
  have X0 : Stand p l e room_1 s m #[(.int p1), (.int p2), (.int p3), (.int p4), (.int p5)] below meth c s₁ [] 0 0 := Stand.of_body Bd
  have e0 : s₁.heap = h0 := by rw [← hh, Bd.state]; rfl
  have N0 := Fr.nil n0
  have pre0 : ∀ t, Steps p.tables e below (s₁.setTop (mkF m 0 #[.val (.int p1), .val (.int p2), .val (.int p3), .val (.int p4), .val (.int p5), .unset, .unset, .unset, .unset, .unset, .unset, .unset, .unset] [])) t → Steps p.tables e below (s₁.setTop (entryFrame m #[(.int p1), (.int p2), (.int p3), (.int p4), (.int p5)] maxLocals)) t := fun t k => castTop (ef_0 m p1 p2 p3 p4 p5) k
  obtain ⟨T6, h6, k6, X6, e6, E6, A6, st6⟩ := newP X0 hx hZ (hw _ (List.mem_of_getElem? (i := 0) rfl)) e0 (g := (mkF m 37 #[.val (.int p1), .val (.int p2), .val (.int p3), .val (.int p4), .val (.int p5), .val (.int ((p1 &&& (3 : Int32)) + (1 : Int32))), .unset, .unset, .unset, .unset, .unset, .unset, .unset] [(.int (2 : Int32))])) rfl (hb hby at_37) rfl (by decide) (cap := 2) (by decide) (by decide) (by decide) (by decide)
  obtain ⟨b6, g6⟩ : ∃ z, z = h0.size := ⟨_, rfl⟩
  rw [← g6] at A6 st6
  have V_b6 : Arv Z h6 b6 k6 .double (2 : Int32) [(.double 0), (.double 0)] (.double 0) := (Arv.new A6 (by decide)).pad (pad_rep [] (.double 0) 2)
  have g_b6 : n0 ≤ b6 := Nat.le_trans Z0 (Nat.le_of_eq g6.symm)
  have sz_b6 : h0.size ≤ b6 := (Nat.le_trans (Keep.refl h0 []).1 (Nat.le_of_eq g6.symm))
  have K6 : Keep h0 h6 [] := (Keep.refl h0 []).ext E6
  obtain ⟨cl_b6_43, Ar_b6, q_b6, S_b6, N_b6, H_b6, G_b6⟩ := V_b6
  have hin43 : ¬ ((0 : Int32) < 0 ∨ cl_b6_43.slots.size ≤ ((0 : Int32)).toNatClampNeg) := inb_of S_b6 ⟨by decide, by decide⟩
  obtain ⟨T7, h7, X7, e7, W7, st7⟩ := stD X6 hx hZ e6 Ar_b6 (j := (0 : Int32)) hin43 (g := (mkF m 43 #[.val (.int p1), .val (.int p2), .val (.int p3), .val (.int p4), .val (.int p5), .val (.int ((p1 &&& (3 : Int32)) + (1 : Int32))), .unset, .unset, .unset, .unset, .unset, .unset, .unset] [(.double (FP.i2d p2)), (.int (0 : Int32)), (.ref b6), (.ref b6)])) rfl rfl (hb hby at_43)
  have V_b6_7 := Arv.set Ar_b6 q_b6 S_b6 N_b6 H_b6 G_b6 rfl W7 0 rfl (Nat.le_of_ble_eq_true rfl)
  have K7 : Keep h0 h7 [] := K6.wr W7 (Or.inr sz_b6)
  have N7 := Fr.snoc X7 N0 g_b6
  obtain ⟨cl_b6_48, Ar_b6, q_b6, S_b6, N_b6, H_b6, G_b6⟩ := V_b6_7
  have hin48 : ¬ ((1 : Int32) < 0 ∨ cl_b6_48.slots.size ≤ ((1 : Int32)).toNatClampNeg) := inb_of S_b6 ⟨by decide, by decide⟩
  obtain ⟨T8, h8, X8, e8, W8, st8⟩ := stD X7 hx hZ e7 Ar_b6 (j := (1 : Int32)) hin48 (g := (mkF m 48 #[.val (.int p1), .val (.int p2), .val (.int p3), .val (.int p4), .val (.int p5), .val (.int ((p1 &&& (3 : Int32)) + (1 : Int32))), .unset, .unset, .unset, .unset, .unset, .unset, .unset] [(.double (FP.i2d p3)), (.int (1 : Int32)), (.ref b6), (.ref b6)])) rfl rfl (hb hby at_48)
  have V_b6_8 := Arv.set Ar_b6 q_b6 S_b6 N_b6 H_b6 G_b6 rfl W8 1 rfl (Nat.le_of_ble_eq_true rfl)
  have K8 : Keep h0 h8 [] := K7.wr W8 (Or.inr sz_b6)
  have N8 := Fr.snoc X8 N7 g_b6
  obtain ⟨T9, h9, X9, e9, E9, A9, D9, -, st9⟩ := newO X8 hx hZ hown (hw _ (List.mem_of_getElem? (i := 1) rfl)) (hw _ (List.mem_of_getElem? (i := 2) rfl)) (hw _ (List.mem_of_getElem? (i := 3) rfl)) e8 (g := (mkF m 140 #[.val (.int p1), .val (.int p2), .val (.int p3), .val (.int p4), .val (.int p5), .val (.int ((p1 &&& (3 : Int32)) + (1 : Int32))), .val (.ref b6), .val (.long ((p2.toInt64) + (p3.toInt64))), .second, .unset, .unset, .unset, .unset] [])) rfl (hb hby at_140) (by decide) (by decide)
  obtain ⟨b9, g9⟩ : ∃ z, z = h8.size := ⟨_, rfl⟩
  rw [← g9] at A9 D9 st9
  have F_modCount_b9 : Fld Z h9 b9 "java/util/AbstractList" "modCount" "I" (.int (0 : Int32)) := D9 (Or.inl (hw _ (List.mem_of_getElem? (i := 23) rfl))) (ty := .int) (by decide)
  have F_elementData_b9 : Fld Z h9 b9 "java/util/ArrayList" "elementData" "[Ljava/lang/Object;" .null := D9 (Or.inl (hw _ (List.mem_of_getElem? (i := 26) rfl))) (ty := (.array (.object "java/lang/Object"))) (by decide)
  have E_b9 := A9
  have g_b9 : n0 ≤ b9 := Nat.le_trans (Nat.le_trans (Nat.le_trans (Nat.le_trans Z0 E6.1) (Keep.of_wr W7).1) (Keep.of_wr W8).1) (Nat.le_of_eq g9.symm)
  have sz_b9 : h0.size ≤ b9 := (Nat.le_trans K8.1 (Nat.le_of_eq g9.symm))
  have K9 : Keep h0 h9 [] := K8.ext E9
  have F_mc : Fld Z h9 b9 "java/util/AbstractList" "modCount" "I" (.int (0 : Int32)) := D9 (Or.inl (hw _ (List.mem_of_getElem? (i := 23) rfl))) (ty := .int) (by decide)
  have Xo : Old Z n0 h9 := (((X00.ext E6).wr W7 g_b6).wr W8 g_b6).ext E9
  have Za : n0 ≤ h9.size := Nat.le_trans Z0 K9.1
  have B0 : own_Da Z h9 b6 2 (own_ds [p2, p3]) := (own_list (N := 2) ([p2, p3].map FP.i2d) (by decide) rfl V_b6_8).ext E9
  have lt0 : b6 < b9 := Nat.lt_of_lt_of_le (Arv.lt V_b6_8) (Nat.le_of_eq g9.symm)
  obtain ⟨_, _, ⟨T10, L10, k10, n10⟩, -, X10, ⟨Lc10, hQ10, l10, y10, z10⟩, st10⟩ := X9.specialBack hx (y := (⟨"java/util/ArrayList", "<init>", "()V"⟩ : MethodName)) rfl hown (mvT hZ (hw _ (List.mem_of_getElem? (i := 4) rfl))) (mvT hZ (hw _ (List.mem_of_getElem? (i := 5) rfl))) (mvT hZ (hw _ (List.mem_of_getElem? (i := 6) rfl))) (by decide) (backOf (W := 1) (r1 l Z a0 hw [] b9 w3 _ _ h9 n0 Za (S_D.ext Xo.2) E_b9 F_elementData_b9 g_b9 F_mc) hZ (hw _ (List.mem_of_getElem? (i := 6) rfl)) (hw _ (List.mem_of_getElem? (i := 3) rfl)) (by decide) (by decide)) (g := (mkF m 144 #[.val (.int p1), .val (.int p2), .val (.int p3), .val (.int p4), .val (.int p5), .val (.int ((p1 &&& (3 : Int32)) + (1 : Int32))), .val (.ref b6), .val (.long ((p2.toInt64) + (p3.toInt64))), .second, .unset, .unset, .unset, .unset] [(.ref b9), (.ref b9)])) rfl (by rw [hml]; rfl) (Steps.refl _) (a := b9) (argsL := []) (rest := [(.ref b9)]) (lenOf pd_0_0 rfl) rfl (by show 2 * 0 + _ ≤ _; exact Nat.le_of_eq rfl) (hb hby at_144) (fun _ _ => ⟨rfl, e9, (by decide : 2 + 0 ≤ _), (by decide : 5 + 0 ≤ _)⟩)
  dsimp only [Pt.U, Pt.locs, Pt.cells, Pt.slots] at X10 l10 y10 z10 st10 hQ10
  subst l10 y10 z10
  obtain ⟨rfl, N10q, K10⟩ := hQ10
  have N10 := Fr.app N8 N10q
  have Z10 : n0 ≤ T10.heap.size := Nat.le_trans Za K10.1
  obtain ⟨T11, h11, X11, e11, E11, A11, D11, -, st11⟩ := newO X10 hx hZ hown (hw _ (List.mem_of_getElem? (i := 27) rfl)) (hw _ (List.mem_of_getElem? (i := 28) rfl)) (hw _ (List.mem_of_getElem? (i := 29) rfl)) rfl (g := (mkF m 149 #[.val (.int p1), .val (.int p2), .val (.int p3), .val (.int p4), .val (.int p5), .val (.int ((p1 &&& (3 : Int32)) + (1 : Int32))), .val (.ref b6), .val (.long ((p2.toInt64) + (p3.toInt64))), .second, .val (.ref b9), .unset, .unset, .unset] [])) rfl (hb hby at_149) (by decide) (by decide)
  obtain ⟨b11, g11⟩ : ∃ z, z = T10.heap.size := ⟨_, rfl⟩
  rw [← g11] at A11 D11 st11
  have F_ms_b11 : Fld Z h11 b11 "com/example/tidegrid/tidegrid/Benchmark$Timed" "ms" "[D" .null := D11 (Or.inr (hw _ (List.mem_of_getElem? (i := 40) rfl))) (ty := (.array .double)) (by decide)
  have F_examinedMean_b11 : Fld Z h11 b11 "com/example/tidegrid/tidegrid/Benchmark$Timed" "examinedMean" "D" (.double 0) := D11 (Or.inr (hw _ (List.mem_of_getElem? (i := 42) rfl))) (ty := .double) (by decide)
  have F_checked_b11 : Fld Z h11 b11 "com/example/tidegrid/tidegrid/Benchmark$Timed" "checked" "Ljava/util/List;" .null := D11 (Or.inr (hw _ (List.mem_of_getElem? (i := 44) rfl))) (ty := (.object "java/util/List")) (by decide)
  have E_b11 := A11
  have g_b11 : n0 ≤ b11 := Nat.le_trans Z10 (Nat.le_of_eq g11.symm)
  have Zt : n0 ≤ h11.size := Nat.le_trans Z10 E11.1
  have B1 : own_Da Z h11 b6 2 (own_ds [p2, p3]) := (B0.keep K10 (ninS (Nat.ne_of_lt lt0) nin0)).ext E11
  have lt1 : b6 < b11 := Nat.lt_of_lt_of_le lt0 (Nat.le_trans (Nat.le_of_lt (Nat.lt_of_lt_of_le E_b9.lt K10.1)) (Nat.le_of_eq g11.symm))
  obtain ⟨_, _, ⟨T12, L12, k12, n12⟩, -, X12, ⟨Lc12, hQ12, l12, y12, z12⟩, st12⟩ := X11.specialBack hx (y := (⟨"com/example/tidegrid/tidegrid/Benchmark$Timed", "<init>", "([DDLjava/util/List;)V"⟩ : MethodName)) rfl hown (mvT hZ (hw _ (List.mem_of_getElem? (i := 30) rfl))) (mvT hZ (hw _ (List.mem_of_getElem? (i := 31) rfl))) (mvT hZ (hw _ (List.mem_of_getElem? (i := 32) rfl))) (by decide) (backOf (W := 1) (r5 l Z a0 hw [] b11 b6 FP.dconst0 b9 _ _ _ h11 n0 Zt E_b11 F_ms_b11 g_b11 F_examinedMean_b11 F_checked_b11) hZ (hw _ (List.mem_of_getElem? (i := 32) rfl)) (hw _ (List.mem_of_getElem? (i := 29) rfl)) (by decide) (by decide)) (g := (mkF m 158 #[.val (.int p1), .val (.int p2), .val (.int p3), .val (.int p4), .val (.int p5), .val (.int ((p1 &&& (3 : Int32)) + (1 : Int32))), .val (.ref b6), .val (.long ((p2.toInt64) + (p3.toInt64))), .second, .val (.ref b9), .unset, .unset, .unset] [(.ref b9), (.double FP.dconst0), (.ref b6), (.ref b11), (.ref b11)])) rfl (by rw [hml]; rfl) (Steps.refl _) (a := b11) (argsL := [(.ref b6), (.double FP.dconst0), (.ref b9)]) (rest := [(.ref b11)]) (lenOf pd_0_1 rfl) rfl (by show 2 * 0 + _ ≤ _; exact Nat.le_of_eq rfl) (hb hby at_158) (fun _ _ => ⟨rfl, e11, (by decide : 3 + 0 ≤ _), (by decide : 8 + 0 ≤ _)⟩)
  dsimp only [Pt.U, Pt.locs, Pt.cells, Pt.slots] at X12 l12 y12 z12 st12 hQ12
  subst l12 y12 z12
  obtain ⟨rfl, N12q, K12, F12⟩ := hQ12
  have N12 := Fr.app N10 N12q
  obtain ⟨cq13, kq13, q13a, q13b, q13c⟩ := isOf hZ rfl (E_b11.keep K12)
  have Zm : n0 ≤ T12.heap.size := Nat.le_trans Zt K12.1
  have B2 : own_Da Z T12.heap b6 2 (own_ds [p2, p3]) := B1.keep K12 (ninS (Nat.ne_of_lt lt1) nin0)
  have hS1 := own_sums (own_ds [p2, p3]) (own_is [p2, p3]) (own_isb [p2, p3]) (own_dsd [p2, p3]) 2 (by decide)
  have hM := own_not_nan (own_div_num hS1 (by decide) (own_len 2 (by decide)))
  obtain ⟨_, _, ⟨T13, L13, k13, n13⟩, -, X13, ⟨Lc13, hQ13, l13, y13, z13⟩, st13⟩ := X12.virtualBack hx (y := (⟨"com/example/tidegrid/tidegrid/Benchmark$Timed", "mean", "()D"⟩ : MethodName)) (z := (⟨"com/example/tidegrid/tidegrid/Benchmark$Timed", "mean", "()D"⟩ : MethodName)) hown (mvT hZ (hw _ (List.mem_of_getElem? (i := 45) rfl))) (mvT hZ (hw _ (List.mem_of_getElem? (i := 46) rfl))) (notFace_of_selects (args := #[]) (mvT hZ (hw _ (List.mem_of_getElem? (i := 48) rfl)))) (mvT hZ (hw _ (List.mem_of_getElem? (i := 48) rfl))) (mvT hZ (hw _ (List.mem_of_getElem? (i := 47) rfl))) (by decide) (backOf (W := 0) (r7 l Z a0 hw [] b11 b6 2 (own_ds [p2, p3]) T12.heap n0 Zm (by decide) F12 B2 (own_nums (own_ds [p2, p3]) (own_is [p2, p3]) (own_isb [p2, p3]) (own_dsd [p2, p3]) 2 (by decide)) hM) hZ (hw _ (List.mem_of_getElem? (i := 49) rfl)) (hw _ (List.mem_of_getElem? (i := 29) rfl)) (by decide) (by decide)) q13a q13c (g := (mkF m 174 #[.val (.int p1), .val (.int p2), .val (.int p3), .val (.int p4), .val (.int p5), .val (.int ((p1 &&& (3 : Int32)) + (1 : Int32))), .val (.ref b6), .val (.long ((p2.toInt64) + (p3.toInt64))), .second, .val (.ref b9), .val (.ref b11), .val (.double (FP.ddiv (FP.l2d ((p2.toInt64) + (p3.toInt64))) (FP.i2d ((p1 &&& (3 : Int32)) + (1 : Int32))))), .second] [(.ref b11)])) rfl (by rw [hml]; rfl) (Steps.refl _) (argsL := []) (rest := []) (lenOf pd_0_2 rfl) rfl (by show 2 * 0 + _ ≤ _; exact Nat.le_of_eq rfl) (hb hby at_174) (fun _ _ => ⟨rfl, rfl, (by decide : 3 + 0 ≤ _), (by decide : 8 + 0 ≤ _)⟩)
  dsimp only [Pt.U, Pt.locs, Pt.cells, Pt.slots] at X13 l13 y13 z13 st13 hQ13
  subst l13 y13 z13
  obtain ⟨rfl, N13q, e13⟩ := hQ13
  have N13 := Fr.app N12 N13q
  have hL : (((p2.toInt64) + (p3.toInt64)) : Int64).toInt = own_isum (own_is [p2, p3]) 2 := by
    show _ = 0 + p2.toInt + p3.toInt
    have i0 := c_i2l p2
    have r0 := rng32 p2
    have i1 := c_i2l p3
    have r1 := rng32 p3
    have a1 := c_ladd (p2.toInt64) (p3.toInt64)
    have b1 := rng64 ((p2.toInt64) + (p3.toInt64))
    omega
  have hLb := own_isum_le (own_is [p2, p3]) (own_isb [p2, p3]) 2
  have hD : Jvm.FP.Core.DInt (own_isum (own_is [p2, p3]) 2) (FP.l2d ((p2.toInt64) + (p3.toInt64))) := by
    rw [← hL]
    exact Jvm.FP.Core.l2d_int (by rw [hL]; omega)
  have hE : (FP.ddiv (FP.l2d ((p2.toInt64) + (p3.toInt64))) (FP.i2d ((p1 &&& (3 : Int32)) + (1 : Int32)))) &&& 0x7fffffffffffffff ≤ 0x7ff0000000000000 := by
    rw [hNN]
    exact own_not_nan (own_div_num hD (by decide) (own_len 2 (by decide)))
  have hC : cmpValue (FP.dcmp (FP.ddiv (own_sum (own_ds [p2, p3]) 2) (FP.i2d (Int32.ofNat 2))) (FP.ddiv (FP.l2d ((p2.toInt64) + (p3.toInt64))) (FP.i2d ((p1 &&& (3 : Int32)) + (1 : Int32))))) .l = 0 := by
    rw [hNN, own_same_mean hS1 hD (by decide) (own_len 2 (by decide))]
    rfl
  obtain ⟨fs, hr, hrun, hended, hW, hsame⟩ := X13.leave (v := some (.int (1 : Int32))) (fun h => by rw [Bd.returns] at h; cases h)
  refine ⟨_, _, pre0 _ ?_, hrun, hended, _, _, rfl, ?_, ⟨_, rfl⟩, hW, hsame.mono (by decide) (by decide)⟩
  · show Steps p.tables e below (s₁.setTop (mkF m 0 #[.val (.int p1), .val (.int p2), .val (.int p3), .val (.int p4), .val (.int p5), .unset, .unset, .unset, .unset, .unset, .unset, .unset, .unset] [])) _
    refine XS.iloadN X0.here hx rfl (hb hby at_0) rfl ?_
    show Steps p.tables e below (s₁.setTop (mkF m 1 #[.val (.int p1), .val (.int p2), .val (.int p3), .val (.int p4), .val (.int p5), .unset, .unset, .unset, .unset, .unset, .unset, .unset, .unset] [(.int p1)])) _
    refine XS.iconst X0.here hx rfl (hb hby at_1) ?_
    show Steps p.tables e below (s₁.setTop (mkF m 2 #[.val (.int p1), .val (.int p2), .val (.int p3), .val (.int p4), .val (.int p5), .unset, .unset, .unset, .unset, .unset, .unset, .unset, .unset] [(.int (3 : Int32)), (.int p1)])) _
    refine XS.iand X0.here hx rfl (hb hby at_2) rfl ?_
    show Steps p.tables e below (s₁.setTop (mkF m 3 #[.val (.int p1), .val (.int p2), .val (.int p3), .val (.int p4), .val (.int p5), .unset, .unset, .unset, .unset, .unset, .unset, .unset, .unset] [(.int (p1 &&& (3 : Int32)))])) _
    refine XS.iconst X0.here hx rfl (hb hby at_3) ?_
    show Steps p.tables e below (s₁.setTop (mkF m 4 #[.val (.int p1), .val (.int p2), .val (.int p3), .val (.int p4), .val (.int p5), .unset, .unset, .unset, .unset, .unset, .unset, .unset, .unset] [(.int (1 : Int32)), (.int (p1 &&& (3 : Int32)))])) _
    refine XS.iadd X0.here hx rfl (hb hby at_4) rfl ?_
    show Steps p.tables e below (s₁.setTop (mkF m 5 #[.val (.int p1), .val (.int p2), .val (.int p3), .val (.int p4), .val (.int p5), .unset, .unset, .unset, .unset, .unset, .unset, .unset, .unset] [(.int ((p1 &&& (3 : Int32)) + (1 : Int32)))])) _
    refine XS.istore X0.here hx rfl (hb hby at_5) rfl (l' := #[.val (.int p1), .val (.int p2), .val (.int p3), .val (.int p4), .val (.int p5), .val (.int ((p1 &&& (3 : Int32)) + (1 : Int32))), .unset, .unset, .unset, .unset, .unset, .unset, .unset]) rfl ?_
    show Steps p.tables e below (s₁.setTop (mkF m 7 #[.val (.int p1), .val (.int p2), .val (.int p3), .val (.int p4), .val (.int p5), .val (.int ((p1 &&& (3 : Int32)) + (1 : Int32))), .unset, .unset, .unset, .unset, .unset, .unset, .unset] [])) _
    refine XS.iload X0.here hx rfl (hb hby at_7) rfl ?_
    show Steps p.tables e below (s₁.setTop (mkF m 9 #[.val (.int p1), .val (.int p2), .val (.int p3), .val (.int p4), .val (.int p5), .val (.int ((p1 &&& (3 : Int32)) + (1 : Int32))), .unset, .unset, .unset, .unset, .unset, .unset, .unset] [(.int ((p1 &&& (3 : Int32)) + (1 : Int32)))])) _
    refine XS.iconst X0.here hx rfl (hb hby at_9) ?_
    show Steps p.tables e below (s₁.setTop (mkF m 10 #[.val (.int p1), .val (.int p2), .val (.int p3), .val (.int p4), .val (.int p5), .val (.int ((p1 &&& (3 : Int32)) + (1 : Int32))), .unset, .unset, .unset, .unset, .unset, .unset, .unset] [(.int (1 : Int32)), (.int ((p1 &&& (3 : Int32)) + (1 : Int32)))])) _
    refine XS.icmpYes X0.here hx rfl (pc0 := 10) (pc' := 30) rfl (hb hby at_10) rfl (feq hc10).2 (by decide) (by decide) ?_
    show Steps p.tables e below (s₁.setTop (mkF m 30 #[.val (.int p1), .val (.int p2), .val (.int p3), .val (.int p4), .val (.int p5), .val (.int ((p1 &&& (3 : Int32)) + (1 : Int32))), .unset, .unset, .unset, .unset, .unset, .unset, .unset] [])) _
    refine XS.iload X0.here hx rfl (hb hby at_30) rfl ?_
    show Steps p.tables e below (s₁.setTop (mkF m 32 #[.val (.int p1), .val (.int p2), .val (.int p3), .val (.int p4), .val (.int p5), .val (.int ((p1 &&& (3 : Int32)) + (1 : Int32))), .unset, .unset, .unset, .unset, .unset, .unset, .unset] [(.int ((p1 &&& (3 : Int32)) + (1 : Int32)))])) _
    refine XS.iconst X0.here hx rfl (hb hby at_32) ?_
    show Steps p.tables e below (s₁.setTop (mkF m 33 #[.val (.int p1), .val (.int p2), .val (.int p3), .val (.int p4), .val (.int p5), .val (.int ((p1 &&& (3 : Int32)) + (1 : Int32))), .unset, .unset, .unset, .unset, .unset, .unset, .unset] [(.int (2 : Int32)), (.int ((p1 &&& (3 : Int32)) + (1 : Int32)))])) _
    refine XS.icmpNo X0.here hx rfl (hb hby at_33) rfl (teq hc33).2 ?_
    show Steps p.tables e below (s₁.setTop (mkF m 36 #[.val (.int p1), .val (.int p2), .val (.int p3), .val (.int p4), .val (.int p5), .val (.int ((p1 &&& (3 : Int32)) + (1 : Int32))), .unset, .unset, .unset, .unset, .unset, .unset, .unset] [])) _
    refine XS.iconst X0.here hx rfl (hb hby at_36) ?_
    show Steps p.tables e below (s₁.setTop (mkF m 37 #[.val (.int p1), .val (.int p2), .val (.int p3), .val (.int p4), .val (.int p5), .val (.int ((p1 &&& (3 : Int32)) + (1 : Int32))), .unset, .unset, .unset, .unset, .unset, .unset, .unset] [(.int (2 : Int32))])) _
    refine st6 _ ?_
    show Steps p.tables e below (T6.setTop (mkF m 39 #[.val (.int p1), .val (.int p2), .val (.int p3), .val (.int p4), .val (.int p5), .val (.int ((p1 &&& (3 : Int32)) + (1 : Int32))), .unset, .unset, .unset, .unset, .unset, .unset, .unset] [(.ref b6)])) _
    refine XS.dup X6.here hx rfl (hb hby at_39) rfl rfl ?_
    show Steps p.tables e below (T6.setTop (mkF m 40 #[.val (.int p1), .val (.int p2), .val (.int p3), .val (.int p4), .val (.int p5), .val (.int ((p1 &&& (3 : Int32)) + (1 : Int32))), .unset, .unset, .unset, .unset, .unset, .unset, .unset] [(.ref b6), (.ref b6)])) _
    refine XS.iconst X6.here hx rfl (hb hby at_40) ?_
    show Steps p.tables e below (T6.setTop (mkF m 41 #[.val (.int p1), .val (.int p2), .val (.int p3), .val (.int p4), .val (.int p5), .val (.int ((p1 &&& (3 : Int32)) + (1 : Int32))), .unset, .unset, .unset, .unset, .unset, .unset, .unset] [(.int (0 : Int32)), (.ref b6), (.ref b6)])) _
    refine XS.iloadN X6.here hx rfl (hb hby at_41) rfl ?_
    show Steps p.tables e below (T6.setTop (mkF m 42 #[.val (.int p1), .val (.int p2), .val (.int p3), .val (.int p4), .val (.int p5), .val (.int ((p1 &&& (3 : Int32)) + (1 : Int32))), .unset, .unset, .unset, .unset, .unset, .unset, .unset] [(.int p2), (.int (0 : Int32)), (.ref b6), (.ref b6)])) _
    refine own_i2d X6.here hx rfl (hb hby at_42) rfl ?_
    show Steps p.tables e below (T6.setTop (mkF m 43 #[.val (.int p1), .val (.int p2), .val (.int p3), .val (.int p4), .val (.int p5), .val (.int ((p1 &&& (3 : Int32)) + (1 : Int32))), .unset, .unset, .unset, .unset, .unset, .unset, .unset] [(.double (FP.i2d p2)), (.int (0 : Int32)), (.ref b6), (.ref b6)])) _
    refine st7 _ ?_
    show Steps p.tables e below (T7.setTop (mkF m 44 #[.val (.int p1), .val (.int p2), .val (.int p3), .val (.int p4), .val (.int p5), .val (.int ((p1 &&& (3 : Int32)) + (1 : Int32))), .unset, .unset, .unset, .unset, .unset, .unset, .unset] [(.ref b6)])) _
    refine XS.dup X7.here hx rfl (hb hby at_44) rfl rfl ?_
    show Steps p.tables e below (T7.setTop (mkF m 45 #[.val (.int p1), .val (.int p2), .val (.int p3), .val (.int p4), .val (.int p5), .val (.int ((p1 &&& (3 : Int32)) + (1 : Int32))), .unset, .unset, .unset, .unset, .unset, .unset, .unset] [(.ref b6), (.ref b6)])) _
    refine XS.iconst X7.here hx rfl (hb hby at_45) ?_
    show Steps p.tables e below (T7.setTop (mkF m 46 #[.val (.int p1), .val (.int p2), .val (.int p3), .val (.int p4), .val (.int p5), .val (.int ((p1 &&& (3 : Int32)) + (1 : Int32))), .unset, .unset, .unset, .unset, .unset, .unset, .unset] [(.int (1 : Int32)), (.ref b6), (.ref b6)])) _
    refine XS.iloadN X7.here hx rfl (hb hby at_46) rfl ?_
    show Steps p.tables e below (T7.setTop (mkF m 47 #[.val (.int p1), .val (.int p2), .val (.int p3), .val (.int p4), .val (.int p5), .val (.int ((p1 &&& (3 : Int32)) + (1 : Int32))), .unset, .unset, .unset, .unset, .unset, .unset, .unset] [(.int p3), (.int (1 : Int32)), (.ref b6), (.ref b6)])) _
    refine own_i2d X7.here hx rfl (hb hby at_47) rfl ?_
    show Steps p.tables e below (T7.setTop (mkF m 48 #[.val (.int p1), .val (.int p2), .val (.int p3), .val (.int p4), .val (.int p5), .val (.int ((p1 &&& (3 : Int32)) + (1 : Int32))), .unset, .unset, .unset, .unset, .unset, .unset, .unset] [(.double (FP.i2d p3)), (.int (1 : Int32)), (.ref b6), (.ref b6)])) _
    refine st8 _ ?_
    show Steps p.tables e below (T8.setTop (mkF m 49 #[.val (.int p1), .val (.int p2), .val (.int p3), .val (.int p4), .val (.int p5), .val (.int ((p1 &&& (3 : Int32)) + (1 : Int32))), .unset, .unset, .unset, .unset, .unset, .unset, .unset] [(.ref b6)])) _
    refine XS.astore X8.here hx rfl (hb hby at_49) rfl rfl (l' := #[.val (.int p1), .val (.int p2), .val (.int p3), .val (.int p4), .val (.int p5), .val (.int ((p1 &&& (3 : Int32)) + (1 : Int32))), .val (.ref b6), .unset, .unset, .unset, .unset, .unset, .unset]) rfl ?_
    show Steps p.tables e below (T8.setTop (mkF m 51 #[.val (.int p1), .val (.int p2), .val (.int p3), .val (.int p4), .val (.int p5), .val (.int ((p1 &&& (3 : Int32)) + (1 : Int32))), .val (.ref b6), .unset, .unset, .unset, .unset, .unset, .unset] [])) _
    refine XS.iloadN X8.here hx rfl (hb hby at_51) rfl ?_
    show Steps p.tables e below (T8.setTop (mkF m 52 #[.val (.int p1), .val (.int p2), .val (.int p3), .val (.int p4), .val (.int p5), .val (.int ((p1 &&& (3 : Int32)) + (1 : Int32))), .val (.ref b6), .unset, .unset, .unset, .unset, .unset, .unset] [(.int p2)])) _
    refine XS.i2l X8.here hx rfl (hb hby at_52) rfl ?_
    show Steps p.tables e below (T8.setTop (mkF m 53 #[.val (.int p1), .val (.int p2), .val (.int p3), .val (.int p4), .val (.int p5), .val (.int ((p1 &&& (3 : Int32)) + (1 : Int32))), .val (.ref b6), .unset, .unset, .unset, .unset, .unset, .unset] [(.long (p2.toInt64))])) _
    refine XS.iloadN X8.here hx rfl (hb hby at_53) rfl ?_
    show Steps p.tables e below (T8.setTop (mkF m 54 #[.val (.int p1), .val (.int p2), .val (.int p3), .val (.int p4), .val (.int p5), .val (.int ((p1 &&& (3 : Int32)) + (1 : Int32))), .val (.ref b6), .unset, .unset, .unset, .unset, .unset, .unset] [(.int p3), (.long (p2.toInt64))])) _
    refine XS.i2l X8.here hx rfl (hb hby at_54) rfl ?_
    show Steps p.tables e below (T8.setTop (mkF m 55 #[.val (.int p1), .val (.int p2), .val (.int p3), .val (.int p4), .val (.int p5), .val (.int ((p1 &&& (3 : Int32)) + (1 : Int32))), .val (.ref b6), .unset, .unset, .unset, .unset, .unset, .unset] [(.long (p3.toInt64)), (.long (p2.toInt64))])) _
    refine XS.ladd X8.here hx rfl (hb hby at_55) rfl ?_
    show Steps p.tables e below (T8.setTop (mkF m 56 #[.val (.int p1), .val (.int p2), .val (.int p3), .val (.int p4), .val (.int p5), .val (.int ((p1 &&& (3 : Int32)) + (1 : Int32))), .val (.ref b6), .unset, .unset, .unset, .unset, .unset, .unset] [(.long ((p2.toInt64) + (p3.toInt64)))])) _
    refine XS.lstore X8.here hx rfl (hb hby at_56) rfl (l' := #[.val (.int p1), .val (.int p2), .val (.int p3), .val (.int p4), .val (.int p5), .val (.int ((p1 &&& (3 : Int32)) + (1 : Int32))), .val (.ref b6), .val (.long ((p2.toInt64) + (p3.toInt64))), .second, .unset, .unset, .unset, .unset]) rfl ?_
    show Steps p.tables e below (T8.setTop (mkF m 58 #[.val (.int p1), .val (.int p2), .val (.int p3), .val (.int p4), .val (.int p5), .val (.int ((p1 &&& (3 : Int32)) + (1 : Int32))), .val (.ref b6), .val (.long ((p2.toInt64) + (p3.toInt64))), .second, .unset, .unset, .unset, .unset] [])) _
    refine XS.goto X8.here hx rfl (pc0 := 58) (pc' := 140) rfl (hb hby at_58) (by decide) (by decide) ?_
    show Steps p.tables e below (T8.setTop (mkF m 140 #[.val (.int p1), .val (.int p2), .val (.int p3), .val (.int p4), .val (.int p5), .val (.int ((p1 &&& (3 : Int32)) + (1 : Int32))), .val (.ref b6), .val (.long ((p2.toInt64) + (p3.toInt64))), .second, .unset, .unset, .unset, .unset] [])) _
    refine st9 _ ?_
    show Steps p.tables e below (T9.setTop (mkF m 143 #[.val (.int p1), .val (.int p2), .val (.int p3), .val (.int p4), .val (.int p5), .val (.int ((p1 &&& (3 : Int32)) + (1 : Int32))), .val (.ref b6), .val (.long ((p2.toInt64) + (p3.toInt64))), .second, .unset, .unset, .unset, .unset] [(.ref b9)])) _
    refine XS.dup X9.here hx rfl (hb hby at_143) rfl rfl ?_
    show Steps p.tables e below (T9.setTop (mkF m 144 #[.val (.int p1), .val (.int p2), .val (.int p3), .val (.int p4), .val (.int p5), .val (.int ((p1 &&& (3 : Int32)) + (1 : Int32))), .val (.ref b6), .val (.long ((p2.toInt64) + (p3.toInt64))), .second, .unset, .unset, .unset, .unset] [(.ref b9), (.ref b9)])) _
    refine st10.trans ?_
    show Steps p.tables e below (T10.setTop (mkF m 147 #[.val (.int p1), .val (.int p2), .val (.int p3), .val (.int p4), .val (.int p5), .val (.int ((p1 &&& (3 : Int32)) + (1 : Int32))), .val (.ref b6), .val (.long ((p2.toInt64) + (p3.toInt64))), .second, .unset, .unset, .unset, .unset] [(.ref b9)])) _
    refine XS.astore X10.here hx rfl (hb hby at_147) rfl rfl (l' := #[.val (.int p1), .val (.int p2), .val (.int p3), .val (.int p4), .val (.int p5), .val (.int ((p1 &&& (3 : Int32)) + (1 : Int32))), .val (.ref b6), .val (.long ((p2.toInt64) + (p3.toInt64))), .second, .val (.ref b9), .unset, .unset, .unset]) rfl ?_
    show Steps p.tables e below (T10.setTop (mkF m 149 #[.val (.int p1), .val (.int p2), .val (.int p3), .val (.int p4), .val (.int p5), .val (.int ((p1 &&& (3 : Int32)) + (1 : Int32))), .val (.ref b6), .val (.long ((p2.toInt64) + (p3.toInt64))), .second, .val (.ref b9), .unset, .unset, .unset] [])) _
    refine st11 _ ?_
    show Steps p.tables e below (T11.setTop (mkF m 152 #[.val (.int p1), .val (.int p2), .val (.int p3), .val (.int p4), .val (.int p5), .val (.int ((p1 &&& (3 : Int32)) + (1 : Int32))), .val (.ref b6), .val (.long ((p2.toInt64) + (p3.toInt64))), .second, .val (.ref b9), .unset, .unset, .unset] [(.ref b11)])) _
    refine XS.dup X11.here hx rfl (hb hby at_152) rfl rfl ?_
    show Steps p.tables e below (T11.setTop (mkF m 153 #[.val (.int p1), .val (.int p2), .val (.int p3), .val (.int p4), .val (.int p5), .val (.int ((p1 &&& (3 : Int32)) + (1 : Int32))), .val (.ref b6), .val (.long ((p2.toInt64) + (p3.toInt64))), .second, .val (.ref b9), .unset, .unset, .unset] [(.ref b11), (.ref b11)])) _
    refine XS.aload X11.here hx rfl (hb hby at_153) rfl rfl ?_
    show Steps p.tables e below (T11.setTop (mkF m 155 #[.val (.int p1), .val (.int p2), .val (.int p3), .val (.int p4), .val (.int p5), .val (.int ((p1 &&& (3 : Int32)) + (1 : Int32))), .val (.ref b6), .val (.long ((p2.toInt64) + (p3.toInt64))), .second, .val (.ref b9), .unset, .unset, .unset] [(.ref b6), (.ref b11), (.ref b11)])) _
    refine own_dconst0 X11.here hx rfl (hb hby at_155) ?_
    show Steps p.tables e below (T11.setTop (mkF m 156 #[.val (.int p1), .val (.int p2), .val (.int p3), .val (.int p4), .val (.int p5), .val (.int ((p1 &&& (3 : Int32)) + (1 : Int32))), .val (.ref b6), .val (.long ((p2.toInt64) + (p3.toInt64))), .second, .val (.ref b9), .unset, .unset, .unset] [(.double FP.dconst0), (.ref b6), (.ref b11), (.ref b11)])) _
    refine XS.aload X11.here hx rfl (hb hby at_156) rfl rfl ?_
    show Steps p.tables e below (T11.setTop (mkF m 158 #[.val (.int p1), .val (.int p2), .val (.int p3), .val (.int p4), .val (.int p5), .val (.int ((p1 &&& (3 : Int32)) + (1 : Int32))), .val (.ref b6), .val (.long ((p2.toInt64) + (p3.toInt64))), .second, .val (.ref b9), .unset, .unset, .unset] [(.ref b9), (.double FP.dconst0), (.ref b6), (.ref b11), (.ref b11)])) _
    refine st12.trans ?_
    show Steps p.tables e below (T12.setTop (mkF m 161 #[.val (.int p1), .val (.int p2), .val (.int p3), .val (.int p4), .val (.int p5), .val (.int ((p1 &&& (3 : Int32)) + (1 : Int32))), .val (.ref b6), .val (.long ((p2.toInt64) + (p3.toInt64))), .second, .val (.ref b9), .unset, .unset, .unset] [(.ref b11)])) _
    refine XS.astore X12.here hx rfl (hb hby at_161) rfl rfl (l' := #[.val (.int p1), .val (.int p2), .val (.int p3), .val (.int p4), .val (.int p5), .val (.int ((p1 &&& (3 : Int32)) + (1 : Int32))), .val (.ref b6), .val (.long ((p2.toInt64) + (p3.toInt64))), .second, .val (.ref b9), .val (.ref b11), .unset, .unset]) rfl ?_
    show Steps p.tables e below (T12.setTop (mkF m 163 #[.val (.int p1), .val (.int p2), .val (.int p3), .val (.int p4), .val (.int p5), .val (.int ((p1 &&& (3 : Int32)) + (1 : Int32))), .val (.ref b6), .val (.long ((p2.toInt64) + (p3.toInt64))), .second, .val (.ref b9), .val (.ref b11), .unset, .unset] [])) _
    refine XS.lload X12.here hx rfl (hb hby at_163) rfl ?_
    show Steps p.tables e below (T12.setTop (mkF m 165 #[.val (.int p1), .val (.int p2), .val (.int p3), .val (.int p4), .val (.int p5), .val (.int ((p1 &&& (3 : Int32)) + (1 : Int32))), .val (.ref b6), .val (.long ((p2.toInt64) + (p3.toInt64))), .second, .val (.ref b9), .val (.ref b11), .unset, .unset] [(.long ((p2.toInt64) + (p3.toInt64)))])) _
    refine own_l2d X12.here hx rfl (hb hby at_165) rfl ?_
    show Steps p.tables e below (T12.setTop (mkF m 166 #[.val (.int p1), .val (.int p2), .val (.int p3), .val (.int p4), .val (.int p5), .val (.int ((p1 &&& (3 : Int32)) + (1 : Int32))), .val (.ref b6), .val (.long ((p2.toInt64) + (p3.toInt64))), .second, .val (.ref b9), .val (.ref b11), .unset, .unset] [(.double (FP.l2d ((p2.toInt64) + (p3.toInt64))))])) _
    refine XS.iload X12.here hx rfl (hb hby at_166) rfl ?_
    show Steps p.tables e below (T12.setTop (mkF m 168 #[.val (.int p1), .val (.int p2), .val (.int p3), .val (.int p4), .val (.int p5), .val (.int ((p1 &&& (3 : Int32)) + (1 : Int32))), .val (.ref b6), .val (.long ((p2.toInt64) + (p3.toInt64))), .second, .val (.ref b9), .val (.ref b11), .unset, .unset] [(.int ((p1 &&& (3 : Int32)) + (1 : Int32))), (.double (FP.l2d ((p2.toInt64) + (p3.toInt64))))])) _
    refine own_i2d X12.here hx rfl (hb hby at_168) rfl ?_
    show Steps p.tables e below (T12.setTop (mkF m 169 #[.val (.int p1), .val (.int p2), .val (.int p3), .val (.int p4), .val (.int p5), .val (.int ((p1 &&& (3 : Int32)) + (1 : Int32))), .val (.ref b6), .val (.long ((p2.toInt64) + (p3.toInt64))), .second, .val (.ref b9), .val (.ref b11), .unset, .unset] [(.double (FP.i2d ((p1 &&& (3 : Int32)) + (1 : Int32)))), (.double (FP.l2d ((p2.toInt64) + (p3.toInt64))))])) _
    refine own_ddiv X12.here hx rfl (hb hby at_169) rfl hE ?_
    show Steps p.tables e below (T12.setTop (mkF m 170 #[.val (.int p1), .val (.int p2), .val (.int p3), .val (.int p4), .val (.int p5), .val (.int ((p1 &&& (3 : Int32)) + (1 : Int32))), .val (.ref b6), .val (.long ((p2.toInt64) + (p3.toInt64))), .second, .val (.ref b9), .val (.ref b11), .unset, .unset] [(.double (FP.ddiv (FP.l2d ((p2.toInt64) + (p3.toInt64))) (FP.i2d ((p1 &&& (3 : Int32)) + (1 : Int32)))))])) _
    refine own_dstore X12.here hx rfl (hb hby at_170) rfl (l' := #[.val (.int p1), .val (.int p2), .val (.int p3), .val (.int p4), .val (.int p5), .val (.int ((p1 &&& (3 : Int32)) + (1 : Int32))), .val (.ref b6), .val (.long ((p2.toInt64) + (p3.toInt64))), .second, .val (.ref b9), .val (.ref b11), .val (.double (FP.ddiv (FP.l2d ((p2.toInt64) + (p3.toInt64))) (FP.i2d ((p1 &&& (3 : Int32)) + (1 : Int32))))), .second]) rfl ?_
    show Steps p.tables e below (T12.setTop (mkF m 172 #[.val (.int p1), .val (.int p2), .val (.int p3), .val (.int p4), .val (.int p5), .val (.int ((p1 &&& (3 : Int32)) + (1 : Int32))), .val (.ref b6), .val (.long ((p2.toInt64) + (p3.toInt64))), .second, .val (.ref b9), .val (.ref b11), .val (.double (FP.ddiv (FP.l2d ((p2.toInt64) + (p3.toInt64))) (FP.i2d ((p1 &&& (3 : Int32)) + (1 : Int32))))), .second] [])) _
    refine XS.aload X12.here hx rfl (hb hby at_172) rfl rfl ?_
    show Steps p.tables e below (T12.setTop (mkF m 174 #[.val (.int p1), .val (.int p2), .val (.int p3), .val (.int p4), .val (.int p5), .val (.int ((p1 &&& (3 : Int32)) + (1 : Int32))), .val (.ref b6), .val (.long ((p2.toInt64) + (p3.toInt64))), .second, .val (.ref b9), .val (.ref b11), .val (.double (FP.ddiv (FP.l2d ((p2.toInt64) + (p3.toInt64))) (FP.i2d ((p1 &&& (3 : Int32)) + (1 : Int32))))), .second] [(.ref b11)])) _
    refine st13.trans ?_
    show Steps p.tables e below (T13.setTop (mkF m 177 #[.val (.int p1), .val (.int p2), .val (.int p3), .val (.int p4), .val (.int p5), .val (.int ((p1 &&& (3 : Int32)) + (1 : Int32))), .val (.ref b6), .val (.long ((p2.toInt64) + (p3.toInt64))), .second, .val (.ref b9), .val (.ref b11), .val (.double (FP.ddiv (FP.l2d ((p2.toInt64) + (p3.toInt64))) (FP.i2d ((p1 &&& (3 : Int32)) + (1 : Int32))))), .second] [(.double (FP.ddiv (own_sum (own_ds [p2, p3]) 2) (FP.i2d (Int32.ofNat 2))))])) _
    refine own_dload X13.here hx rfl (hb hby at_177) rfl ?_
    show Steps p.tables e below (T13.setTop (mkF m 179 #[.val (.int p1), .val (.int p2), .val (.int p3), .val (.int p4), .val (.int p5), .val (.int ((p1 &&& (3 : Int32)) + (1 : Int32))), .val (.ref b6), .val (.long ((p2.toInt64) + (p3.toInt64))), .second, .val (.ref b9), .val (.ref b11), .val (.double (FP.ddiv (FP.l2d ((p2.toInt64) + (p3.toInt64))) (FP.i2d ((p1 &&& (3 : Int32)) + (1 : Int32))))), .second] [(.double (FP.ddiv (FP.l2d ((p2.toInt64) + (p3.toInt64))) (FP.i2d ((p1 &&& (3 : Int32)) + (1 : Int32))))), (.double (FP.ddiv (own_sum (own_ds [p2, p3]) 2) (FP.i2d (Int32.ofNat 2))))])) _
    refine own_dcmp X13.here hx rfl (hb hby at_179) rfl (k := 0) hC ?_
    show Steps p.tables e below (T13.setTop (mkF m 180 #[.val (.int p1), .val (.int p2), .val (.int p3), .val (.int p4), .val (.int p5), .val (.int ((p1 &&& (3 : Int32)) + (1 : Int32))), .val (.ref b6), .val (.long ((p2.toInt64) + (p3.toInt64))), .second, .val (.ref b9), .val (.ref b11), .val (.double (FP.ddiv (FP.l2d ((p2.toInt64) + (p3.toInt64))) (FP.i2d ((p1 &&& (3 : Int32)) + (1 : Int32))))), .second] [(.int (0 : Int32))])) _
    refine XS.ifNo X13.here hx rfl (hb hby at_180) rfl ((if0 _ _).trans (teq (rfl : (0 : Int32) = (0 : Int32))).2) ?_
    show Steps p.tables e below (T13.setTop (mkF m 183 #[.val (.int p1), .val (.int p2), .val (.int p3), .val (.int p4), .val (.int p5), .val (.int ((p1 &&& (3 : Int32)) + (1 : Int32))), .val (.ref b6), .val (.long ((p2.toInt64) + (p3.toInt64))), .second, .val (.ref b9), .val (.ref b11), .val (.double (FP.ddiv (FP.l2d ((p2.toInt64) + (p3.toInt64))) (FP.i2d ((p1 &&& (3 : Int32)) + (1 : Int32))))), .second] [])) _
    refine XS.iconst X13.here hx rfl (hb hby at_183) ?_
    show Steps p.tables e below (T13.setTop (mkF m 184 #[.val (.int p1), .val (.int p2), .val (.int p3), .val (.int p4), .val (.int p5), .val (.int ((p1 &&& (3 : Int32)) + (1 : Int32))), .val (.ref b6), .val (.long ((p2.toInt64) + (p3.toInt64))), .second, .val (.ref b9), .val (.ref b11), .val (.double (FP.ddiv (FP.l2d ((p2.toInt64) + (p3.toInt64))) (FP.i2d ((p1 &&& (3 : Int32)) + (1 : Int32))))), .second] [(.int (1 : Int32))])) _
    refine XS.goto X13.here hx rfl (pc0 := 184) (pc' := 188) rfl (hb hby at_184) (by decide) (by decide) ?_
    show Steps p.tables e below (T13.setTop (mkF m 188 #[.val (.int p1), .val (.int p2), .val (.int p3), .val (.int p4), .val (.int p5), .val (.int ((p1 &&& (3 : Int32)) + (1 : Int32))), .val (.ref b6), .val (.long ((p2.toInt64) + (p3.toInt64))), .second, .val (.ref b9), .val (.ref b11), .val (.double (FP.ddiv (FP.l2d ((p2.toInt64) + (p3.toInt64))) (FP.i2d ((p1 &&& (3 : Int32)) + (1 : Int32))))), .second] [(.int (1 : Int32))])) _
    exact retN X13 hx (t := .boolean) Bd.returns (by simp) (hb hby at_188) hr
  · show Q0 h0 n0 _ T13.heap _
    exact ⟨rfl, N13⟩
set_option maxRecDepth 65536 in
set_option maxHeartbeats 40000000 in
theorem rm0_3 (l : Launch) (Z : State) (a0 : Array Value) (hw : ∀ d ∈ tables_1, d.before a0 Z = true) (ws : List Jvm.Cond) (p1 p2 p3 p4 p5 : Int32) (w3 : Addr) (h0 : Heap) (n0 : Nat) (Z0 : n0 ≤ h0.size) (S_D : Sta Z Z.heap "java/util/ArrayList" "DEFAULTCAPACITY_EMPTY_ELEMENTDATA" "[Ljava/lang/Object;" (.ref w3)) (X00 : Old Z n0 h0) (hNN : ((p1 &&& (3 : Int32)) + (1 : Int32)) = Int32.ofNat 3) (hc10 : ¬ (((p1 &&& (3 : Int32)) + (1 : Int32)) = (1 : Int32))) (hc33 : ¬ (((p1 &&& (3 : Int32)) + (1 : Int32)) = (2 : Int32))) (hc64 : ((p1 &&& (3 : Int32)) + (1 : Int32)) = (3 : Int32)) :
    MetFree l x (head1 (Jvm.Cond.code x code maxLocals ret :: ws) room_1) (fun a U => a = #[(.int p1), (.int p2), (.int p3), (.int p4), (.int p5)] ∧ Z.Warmed39 U.vm ∧ U.heap = h0) (fun _ _ _ _ _ => True) (fun _ U o U' => ∃ v L, o = .returned v ∧ Q0 h0 n0 v U'.heap L ∧ FrameEnd U o U' L room_1.cells room_1.slots) := by
  refine MetFree.of_bodySF (plainFor_of_name pn_0) hisR ?_
  intro p e s m args below meth c s₁ Bd hml0 hP hK
  obtain ⟨rfl, hZ, hh⟩ := hP
  have hx := Bd.exec
  have hby := Bd.bytes
  have hml : c.maxLocals = 13 := hml0
  have hown : s.vm.findClass "com/example/tidegrid/tidegrid/TimedMeanPinLaw" = some m.cls := findClass_of_methodNamed Bd.named
  have hnm := (name_of_methodNamed Bd.named Bd.method).1
  have X0 : Stand p l e room_1 s m #[(.int p1), (.int p2), (.int p3), (.int p4), (.int p5)] below meth c s₁ [] 0 0 := Stand.of_body Bd
  have e0 : s₁.heap = h0 := by rw [← hh, Bd.state]; rfl
  have N0 := Fr.nil n0
  have pre0 : ∀ t, Steps p.tables e below (s₁.setTop (mkF m 0 #[.val (.int p1), .val (.int p2), .val (.int p3), .val (.int p4), .val (.int p5), .unset, .unset, .unset, .unset, .unset, .unset, .unset, .unset] [])) t → Steps p.tables e below (s₁.setTop (entryFrame m #[(.int p1), (.int p2), (.int p3), (.int p4), (.int p5)] maxLocals)) t := fun t k => castTop (ef_0 m p1 p2 p3 p4 p5) k
  obtain ⟨T6, h6, k6, X6, e6, E6, A6, st6⟩ := newP X0 hx hZ (hw _ (List.mem_of_getElem? (i := 0) rfl)) e0 (g := (mkF m 68 #[.val (.int p1), .val (.int p2), .val (.int p3), .val (.int p4), .val (.int p5), .val (.int ((p1 &&& (3 : Int32)) + (1 : Int32))), .unset, .unset, .unset, .unset, .unset, .unset, .unset] [(.int (3 : Int32))])) rfl (hb hby at_68) rfl (by decide) (cap := 3) (by decide) (by decide) (by decide) (by decide)
  obtain ⟨b6, g6⟩ : ∃ z, z = h0.size := ⟨_, rfl⟩
  rw [← g6] at A6 st6
  have V_b6 : Arv Z h6 b6 k6 .double (3 : Int32) [(.double 0), (.double 0), (.double 0)] (.double 0) := (Arv.new A6 (by decide)).pad (pad_rep [] (.double 0) 3)
  have g_b6 : n0 ≤ b6 := Nat.le_trans Z0 (Nat.le_of_eq g6.symm)
  have sz_b6 : h0.size ≤ b6 := (Nat.le_trans (Keep.refl h0 []).1 (Nat.le_of_eq g6.symm))
  have K6 : Keep h0 h6 [] := (Keep.refl h0 []).ext E6
  obtain ⟨cl_b6_74, Ar_b6, q_b6, S_b6, N_b6, H_b6, G_b6⟩ := V_b6
  have hin74 : ¬ ((0 : Int32) < 0 ∨ cl_b6_74.slots.size ≤ ((0 : Int32)).toNatClampNeg) := inb_of S_b6 ⟨by decide, by decide⟩
  obtain ⟨T7, h7, X7, e7, W7, st7⟩ := stD X6 hx hZ e6 Ar_b6 (j := (0 : Int32)) hin74 (g := (mkF m 74 #[.val (.int p1), .val (.int p2), .val (.int p3), .val (.int p4), .val (.int p5), .val (.int ((p1 &&& (3 : Int32)) + (1 : Int32))), .unset, .unset, .unset, .unset, .unset, .unset, .unset] [(.double (FP.i2d p2)), (.int (0 : Int32)), (.ref b6), (.ref b6)])) rfl rfl (hb hby at_74)
  have V_b6_7 := Arv.set Ar_b6 q_b6 S_b6 N_b6 H_b6 G_b6 rfl W7 0 rfl (Nat.le_of_ble_eq_true rfl)
  have K7 : Keep h0 h7 [] := K6.wr W7 (Or.inr sz_b6)
  have N7 := Fr.snoc X7 N0 g_b6
  obtain ⟨cl_b6_79, Ar_b6, q_b6, S_b6, N_b6, H_b6, G_b6⟩ := V_b6_7
  have hin79 : ¬ ((1 : Int32) < 0 ∨ cl_b6_79.slots.size ≤ ((1 : Int32)).toNatClampNeg) := inb_of S_b6 ⟨by decide, by decide⟩
  obtain ⟨T8, h8, X8, e8, W8, st8⟩ := stD X7 hx hZ e7 Ar_b6 (j := (1 : Int32)) hin79 (g := (mkF m 79 #[.val (.int p1), .val (.int p2), .val (.int p3), .val (.int p4), .val (.int p5), .val (.int ((p1 &&& (3 : Int32)) + (1 : Int32))), .unset, .unset, .unset, .unset, .unset, .unset, .unset] [(.double (FP.i2d p3)), (.int (1 : Int32)), (.ref b6), (.ref b6)])) rfl rfl (hb hby at_79)
  have V_b6_8 := Arv.set Ar_b6 q_b6 S_b6 N_b6 H_b6 G_b6 rfl W8 1 rfl (Nat.le_of_ble_eq_true rfl)
  have K8 : Keep h0 h8 [] := K7.wr W8 (Or.inr sz_b6)
  have N8 := Fr.snoc X8 N7 g_b6
  obtain ⟨cl_b6_84, Ar_b6, q_b6, S_b6, N_b6, H_b6, G_b6⟩ := V_b6_8
  have hin84 : ¬ ((2 : Int32) < 0 ∨ cl_b6_84.slots.size ≤ ((2 : Int32)).toNatClampNeg) := inb_of S_b6 ⟨by decide, by decide⟩
  obtain ⟨T9, h9, X9, e9, W9, st9⟩ := stD X8 hx hZ e8 Ar_b6 (j := (2 : Int32)) hin84 (g := (mkF m 84 #[.val (.int p1), .val (.int p2), .val (.int p3), .val (.int p4), .val (.int p5), .val (.int ((p1 &&& (3 : Int32)) + (1 : Int32))), .unset, .unset, .unset, .unset, .unset, .unset, .unset] [(.double (FP.i2d p4)), (.int (2 : Int32)), (.ref b6), (.ref b6)])) rfl rfl (hb hby at_84)
  have V_b6_9 := Arv.set Ar_b6 q_b6 S_b6 N_b6 H_b6 G_b6 rfl W9 2 rfl (Nat.le_of_ble_eq_true rfl)
  have K9 : Keep h0 h9 [] := K8.wr W9 (Or.inr sz_b6)
  have N9 := Fr.snoc X9 N8 g_b6
  obtain ⟨T10, h10, X10, e10, E10, A10, D10, -, st10⟩ := newO X9 hx hZ hown (hw _ (List.mem_of_getElem? (i := 1) rfl)) (hw _ (List.mem_of_getElem? (i := 2) rfl)) (hw _ (List.mem_of_getElem? (i := 3) rfl)) e9 (g := (mkF m 140 #[.val (.int p1), .val (.int p2), .val (.int p3), .val (.int p4), .val (.int p5), .val (.int ((p1 &&& (3 : Int32)) + (1 : Int32))), .val (.ref b6), .val (.long (((p2.toInt64) + (p3.toInt64)) + (p4.toInt64))), .second, .unset, .unset, .unset, .unset] [])) rfl (hb hby at_140) (by decide) (by decide)
  obtain ⟨b10, g10⟩ : ∃ z, z = h9.size := ⟨_, rfl⟩
  rw [← g10] at A10 D10 st10
  have F_modCount_b10 : Fld Z h10 b10 "java/util/AbstractList" "modCount" "I" (.int (0 : Int32)) := D10 (Or.inl (hw _ (List.mem_of_getElem? (i := 23) rfl))) (ty := .int) (by decide)
  have F_elementData_b10 : Fld Z h10 b10 "java/util/ArrayList" "elementData" "[Ljava/lang/Object;" .null := D10 (Or.inl (hw _ (List.mem_of_getElem? (i := 26) rfl))) (ty := (.array (.object "java/lang/Object"))) (by decide)
  have E_b10 := A10
  have g_b10 : n0 ≤ b10 := Nat.le_trans (Nat.le_trans (Nat.le_trans (Nat.le_trans (Nat.le_trans Z0 E6.1) (Keep.of_wr W7).1) (Keep.of_wr W8).1) (Keep.of_wr W9).1) (Nat.le_of_eq g10.symm)
  have sz_b10 : h0.size ≤ b10 := (Nat.le_trans K9.1 (Nat.le_of_eq g10.symm))
  have K10 : Keep h0 h10 [] := K9.ext E10
  have F_mc : Fld Z h10 b10 "java/util/AbstractList" "modCount" "I" (.int (0 : Int32)) := D10 (Or.inl (hw _ (List.mem_of_getElem? (i := 23) rfl))) (ty := .int) (by decide)
  have Xo : Old Z n0 h10 := ((((X00.ext E6).wr W7 g_b6).wr W8 g_b6).wr W9 g_b6).ext E10
  have Za : n0 ≤ h10.size := Nat.le_trans Z0 K10.1
  have B0 : own_Da Z h10 b6 3 (own_ds [p2, p3, p4]) := (own_list (N := 3) ([p2, p3, p4].map FP.i2d) (by decide) rfl V_b6_9).ext E10
  have lt0 : b6 < b10 := Nat.lt_of_lt_of_le (Arv.lt V_b6_9) (Nat.le_of_eq g10.symm)
  obtain ⟨_, _, ⟨T11, L11, k11, n11⟩, -, X11, ⟨Lc11, hQ11, l11, y11, z11⟩, st11⟩ := X10.specialBack hx (y := (⟨"java/util/ArrayList", "<init>", "()V"⟩ : MethodName)) rfl hown (mvT hZ (hw _ (List.mem_of_getElem? (i := 4) rfl))) (mvT hZ (hw _ (List.mem_of_getElem? (i := 5) rfl))) (mvT hZ (hw _ (List.mem_of_getElem? (i := 6) rfl))) (by decide) (backOf (W := 1) (r1 l Z a0 hw [] b10 w3 _ _ h10 n0 Za (S_D.ext Xo.2) E_b10 F_elementData_b10 g_b10 F_mc) hZ (hw _ (List.mem_of_getElem? (i := 6) rfl)) (hw _ (List.mem_of_getElem? (i := 3) rfl)) (by decide) (by decide)) (g := (mkF m 144 #[.val (.int p1), .val (.int p2), .val (.int p3), .val (.int p4), .val (.int p5), .val (.int ((p1 &&& (3 : Int32)) + (1 : Int32))), .val (.ref b6), .val (.long (((p2.toInt64) + (p3.toInt64)) + (p4.toInt64))), .second, .unset, .unset, .unset, .unset] [(.ref b10), (.ref b10)])) rfl (by rw [hml]; rfl) (Steps.refl _) (a := b10) (argsL := []) (rest := [(.ref b10)]) (lenOf pd_0_0 rfl) rfl (by show 2 * 0 + _ ≤ _; exact Nat.le_of_eq rfl) (hb hby at_144) (fun _ _ => ⟨rfl, e10, (by decide : 2 + 0 ≤ _), (by decide : 6 + 0 ≤ _)⟩)
  dsimp only [Pt.U, Pt.locs, Pt.cells, Pt.slots] at X11 l11 y11 z11 st11 hQ11
  subst l11 y11 z11
  obtain ⟨rfl, N11q, K11⟩ := hQ11
  have N11 := Fr.app N9 N11q
  have Z11 : n0 ≤ T11.heap.size := Nat.le_trans Za K11.1
  obtain ⟨T12, h12, X12, e12, E12, A12, D12, -, st12⟩ := newO X11 hx hZ hown (hw _ (List.mem_of_getElem? (i := 27) rfl)) (hw _ (List.mem_of_getElem? (i := 28) rfl)) (hw _ (List.mem_of_getElem? (i := 29) rfl)) rfl (g := (mkF m 149 #[.val (.int p1), .val (.int p2), .val (.int p3), .val (.int p4), .val (.int p5), .val (.int ((p1 &&& (3 : Int32)) + (1 : Int32))), .val (.ref b6), .val (.long (((p2.toInt64) + (p3.toInt64)) + (p4.toInt64))), .second, .val (.ref b10), .unset, .unset, .unset] [])) rfl (hb hby at_149) (by decide) (by decide)
  obtain ⟨b12, g12⟩ : ∃ z, z = T11.heap.size := ⟨_, rfl⟩
  rw [← g12] at A12 D12 st12
  have F_ms_b12 : Fld Z h12 b12 "com/example/tidegrid/tidegrid/Benchmark$Timed" "ms" "[D" .null := D12 (Or.inr (hw _ (List.mem_of_getElem? (i := 40) rfl))) (ty := (.array .double)) (by decide)
  have F_examinedMean_b12 : Fld Z h12 b12 "com/example/tidegrid/tidegrid/Benchmark$Timed" "examinedMean" "D" (.double 0) := D12 (Or.inr (hw _ (List.mem_of_getElem? (i := 42) rfl))) (ty := .double) (by decide)
  have F_checked_b12 : Fld Z h12 b12 "com/example/tidegrid/tidegrid/Benchmark$Timed" "checked" "Ljava/util/List;" .null := D12 (Or.inr (hw _ (List.mem_of_getElem? (i := 44) rfl))) (ty := (.object "java/util/List")) (by decide)
  have E_b12 := A12
  have g_b12 : n0 ≤ b12 := Nat.le_trans Z11 (Nat.le_of_eq g12.symm)
  have Zt : n0 ≤ h12.size := Nat.le_trans Z11 E12.1
  have B1 : own_Da Z h12 b6 3 (own_ds [p2, p3, p4]) := (B0.keep K11 (ninS (Nat.ne_of_lt lt0) nin0)).ext E12
  have lt1 : b6 < b12 := Nat.lt_of_lt_of_le lt0 (Nat.le_trans (Nat.le_of_lt (Nat.lt_of_lt_of_le E_b10.lt K11.1)) (Nat.le_of_eq g12.symm))
  obtain ⟨_, _, ⟨T13, L13, k13, n13⟩, -, X13, ⟨Lc13, hQ13, l13, y13, z13⟩, st13⟩ := X12.specialBack hx (y := (⟨"com/example/tidegrid/tidegrid/Benchmark$Timed", "<init>", "([DDLjava/util/List;)V"⟩ : MethodName)) rfl hown (mvT hZ (hw _ (List.mem_of_getElem? (i := 30) rfl))) (mvT hZ (hw _ (List.mem_of_getElem? (i := 31) rfl))) (mvT hZ (hw _ (List.mem_of_getElem? (i := 32) rfl))) (by decide) (backOf (W := 1) (r5 l Z a0 hw [] b12 b6 FP.dconst0 b10 _ _ _ h12 n0 Zt E_b12 F_ms_b12 g_b12 F_examinedMean_b12 F_checked_b12) hZ (hw _ (List.mem_of_getElem? (i := 32) rfl)) (hw _ (List.mem_of_getElem? (i := 29) rfl)) (by decide) (by decide)) (g := (mkF m 158 #[.val (.int p1), .val (.int p2), .val (.int p3), .val (.int p4), .val (.int p5), .val (.int ((p1 &&& (3 : Int32)) + (1 : Int32))), .val (.ref b6), .val (.long (((p2.toInt64) + (p3.toInt64)) + (p4.toInt64))), .second, .val (.ref b10), .unset, .unset, .unset] [(.ref b10), (.double FP.dconst0), (.ref b6), (.ref b12), (.ref b12)])) rfl (by rw [hml]; rfl) (Steps.refl _) (a := b12) (argsL := [(.ref b6), (.double FP.dconst0), (.ref b10)]) (rest := [(.ref b12)]) (lenOf pd_0_1 rfl) rfl (by show 2 * 0 + _ ≤ _; exact Nat.le_of_eq rfl) (hb hby at_158) (fun _ _ => ⟨rfl, e12, (by decide : 3 + 0 ≤ _), (by decide : 9 + 0 ≤ _)⟩)
  dsimp only [Pt.U, Pt.locs, Pt.cells, Pt.slots] at X13 l13 y13 z13 st13 hQ13
  subst l13 y13 z13
  obtain ⟨rfl, N13q, K13, F13⟩ := hQ13
  have N13 := Fr.app N11 N13q
  obtain ⟨cq14, kq14, q14a, q14b, q14c⟩ := isOf hZ rfl (E_b12.keep K13)
  have Zm : n0 ≤ T13.heap.size := Nat.le_trans Zt K13.1
  have B2 : own_Da Z T13.heap b6 3 (own_ds [p2, p3, p4]) := B1.keep K13 (ninS (Nat.ne_of_lt lt1) nin0)
  have hS1 := own_sums (own_ds [p2, p3, p4]) (own_is [p2, p3, p4]) (own_isb [p2, p3, p4]) (own_dsd [p2, p3, p4]) 3 (by decide)
  have hM := own_not_nan (own_div_num hS1 (by decide) (own_len 3 (by decide)))
  obtain ⟨_, _, ⟨T14, L14, k14, n14⟩, -, X14, ⟨Lc14, hQ14, l14, y14, z14⟩, st14⟩ := X13.virtualBack hx (y := (⟨"com/example/tidegrid/tidegrid/Benchmark$Timed", "mean", "()D"⟩ : MethodName)) (z := (⟨"com/example/tidegrid/tidegrid/Benchmark$Timed", "mean", "()D"⟩ : MethodName)) hown (mvT hZ (hw _ (List.mem_of_getElem? (i := 45) rfl))) (mvT hZ (hw _ (List.mem_of_getElem? (i := 46) rfl))) (notFace_of_selects (args := #[]) (mvT hZ (hw _ (List.mem_of_getElem? (i := 48) rfl)))) (mvT hZ (hw _ (List.mem_of_getElem? (i := 48) rfl))) (mvT hZ (hw _ (List.mem_of_getElem? (i := 47) rfl))) (by decide) (backOf (W := 0) (r7 l Z a0 hw [] b12 b6 3 (own_ds [p2, p3, p4]) T13.heap n0 Zm (by decide) F13 B2 (own_nums (own_ds [p2, p3, p4]) (own_is [p2, p3, p4]) (own_isb [p2, p3, p4]) (own_dsd [p2, p3, p4]) 3 (by decide)) hM) hZ (hw _ (List.mem_of_getElem? (i := 49) rfl)) (hw _ (List.mem_of_getElem? (i := 29) rfl)) (by decide) (by decide)) q14a q14c (g := (mkF m 174 #[.val (.int p1), .val (.int p2), .val (.int p3), .val (.int p4), .val (.int p5), .val (.int ((p1 &&& (3 : Int32)) + (1 : Int32))), .val (.ref b6), .val (.long (((p2.toInt64) + (p3.toInt64)) + (p4.toInt64))), .second, .val (.ref b10), .val (.ref b12), .val (.double (FP.ddiv (FP.l2d (((p2.toInt64) + (p3.toInt64)) + (p4.toInt64))) (FP.i2d ((p1 &&& (3 : Int32)) + (1 : Int32))))), .second] [(.ref b12)])) rfl (by rw [hml]; rfl) (Steps.refl _) (argsL := []) (rest := []) (lenOf pd_0_2 rfl) rfl (by show 2 * 0 + _ ≤ _; exact Nat.le_of_eq rfl) (hb hby at_174) (fun _ _ => ⟨rfl, rfl, (by decide : 3 + 0 ≤ _), (by decide : 9 + 0 ≤ _)⟩)
  dsimp only [Pt.U, Pt.locs, Pt.cells, Pt.slots] at X14 l14 y14 z14 st14 hQ14
  subst l14 y14 z14
  obtain ⟨rfl, N14q, e14⟩ := hQ14
  have N14 := Fr.app N13 N14q
  have hL : ((((p2.toInt64) + (p3.toInt64)) + (p4.toInt64)) : Int64).toInt = own_isum (own_is [p2, p3, p4]) 3 := by
    show _ = 0 + p2.toInt + p3.toInt + p4.toInt
    have i0 := c_i2l p2
    have r0 := rng32 p2
    have i1 := c_i2l p3
    have r1 := rng32 p3
    have a1 := c_ladd (p2.toInt64) (p3.toInt64)
    have b1 := rng64 ((p2.toInt64) + (p3.toInt64))
    have i2 := c_i2l p4
    have r2 := rng32 p4
    have a2 := c_ladd ((p2.toInt64) + (p3.toInt64)) (p4.toInt64)
    have b2 := rng64 (((p2.toInt64) + (p3.toInt64)) + (p4.toInt64))
    omega
  have hLb := own_isum_le (own_is [p2, p3, p4]) (own_isb [p2, p3, p4]) 3
  have hD : Jvm.FP.Core.DInt (own_isum (own_is [p2, p3, p4]) 3) (FP.l2d (((p2.toInt64) + (p3.toInt64)) + (p4.toInt64))) := by
    rw [← hL]
    exact Jvm.FP.Core.l2d_int (by rw [hL]; omega)
  have hE : (FP.ddiv (FP.l2d (((p2.toInt64) + (p3.toInt64)) + (p4.toInt64))) (FP.i2d ((p1 &&& (3 : Int32)) + (1 : Int32)))) &&& 0x7fffffffffffffff ≤ 0x7ff0000000000000 := by
    rw [hNN]
    exact own_not_nan (own_div_num hD (by decide) (own_len 3 (by decide)))
  have hC : cmpValue (FP.dcmp (FP.ddiv (own_sum (own_ds [p2, p3, p4]) 3) (FP.i2d (Int32.ofNat 3))) (FP.ddiv (FP.l2d (((p2.toInt64) + (p3.toInt64)) + (p4.toInt64))) (FP.i2d ((p1 &&& (3 : Int32)) + (1 : Int32))))) .l = 0 := by
    rw [hNN, own_same_mean hS1 hD (by decide) (own_len 3 (by decide))]
    rfl
  obtain ⟨fs, hr, hrun, hended, hW, hsame⟩ := X14.leave (v := some (.int (1 : Int32))) (fun h => by rw [Bd.returns] at h; cases h)
  refine ⟨_, _, pre0 _ ?_, hrun, hended, _, _, rfl, ?_, ⟨_, rfl⟩, hW, hsame.mono (by decide) (by decide)⟩
  · show Steps p.tables e below (s₁.setTop (mkF m 0 #[.val (.int p1), .val (.int p2), .val (.int p3), .val (.int p4), .val (.int p5), .unset, .unset, .unset, .unset, .unset, .unset, .unset, .unset] [])) _
    refine XS.iloadN X0.here hx rfl (hb hby at_0) rfl ?_
    show Steps p.tables e below (s₁.setTop (mkF m 1 #[.val (.int p1), .val (.int p2), .val (.int p3), .val (.int p4), .val (.int p5), .unset, .unset, .unset, .unset, .unset, .unset, .unset, .unset] [(.int p1)])) _
    refine XS.iconst X0.here hx rfl (hb hby at_1) ?_
    show Steps p.tables e below (s₁.setTop (mkF m 2 #[.val (.int p1), .val (.int p2), .val (.int p3), .val (.int p4), .val (.int p5), .unset, .unset, .unset, .unset, .unset, .unset, .unset, .unset] [(.int (3 : Int32)), (.int p1)])) _
    refine XS.iand X0.here hx rfl (hb hby at_2) rfl ?_
    show Steps p.tables e below (s₁.setTop (mkF m 3 #[.val (.int p1), .val (.int p2), .val (.int p3), .val (.int p4), .val (.int p5), .unset, .unset, .unset, .unset, .unset, .unset, .unset, .unset] [(.int (p1 &&& (3 : Int32)))])) _
    refine XS.iconst X0.here hx rfl (hb hby at_3) ?_
    show Steps p.tables e below (s₁.setTop (mkF m 4 #[.val (.int p1), .val (.int p2), .val (.int p3), .val (.int p4), .val (.int p5), .unset, .unset, .unset, .unset, .unset, .unset, .unset, .unset] [(.int (1 : Int32)), (.int (p1 &&& (3 : Int32)))])) _
    refine XS.iadd X0.here hx rfl (hb hby at_4) rfl ?_
    show Steps p.tables e below (s₁.setTop (mkF m 5 #[.val (.int p1), .val (.int p2), .val (.int p3), .val (.int p4), .val (.int p5), .unset, .unset, .unset, .unset, .unset, .unset, .unset, .unset] [(.int ((p1 &&& (3 : Int32)) + (1 : Int32)))])) _
    refine XS.istore X0.here hx rfl (hb hby at_5) rfl (l' := #[.val (.int p1), .val (.int p2), .val (.int p3), .val (.int p4), .val (.int p5), .val (.int ((p1 &&& (3 : Int32)) + (1 : Int32))), .unset, .unset, .unset, .unset, .unset, .unset, .unset]) rfl ?_
    show Steps p.tables e below (s₁.setTop (mkF m 7 #[.val (.int p1), .val (.int p2), .val (.int p3), .val (.int p4), .val (.int p5), .val (.int ((p1 &&& (3 : Int32)) + (1 : Int32))), .unset, .unset, .unset, .unset, .unset, .unset, .unset] [])) _
    refine XS.iload X0.here hx rfl (hb hby at_7) rfl ?_
    show Steps p.tables e below (s₁.setTop (mkF m 9 #[.val (.int p1), .val (.int p2), .val (.int p3), .val (.int p4), .val (.int p5), .val (.int ((p1 &&& (3 : Int32)) + (1 : Int32))), .unset, .unset, .unset, .unset, .unset, .unset, .unset] [(.int ((p1 &&& (3 : Int32)) + (1 : Int32)))])) _
    refine XS.iconst X0.here hx rfl (hb hby at_9) ?_
    show Steps p.tables e below (s₁.setTop (mkF m 10 #[.val (.int p1), .val (.int p2), .val (.int p3), .val (.int p4), .val (.int p5), .val (.int ((p1 &&& (3 : Int32)) + (1 : Int32))), .unset, .unset, .unset, .unset, .unset, .unset, .unset] [(.int (1 : Int32)), (.int ((p1 &&& (3 : Int32)) + (1 : Int32)))])) _
    refine XS.icmpYes X0.here hx rfl (pc0 := 10) (pc' := 30) rfl (hb hby at_10) rfl (feq hc10).2 (by decide) (by decide) ?_
    show Steps p.tables e below (s₁.setTop (mkF m 30 #[.val (.int p1), .val (.int p2), .val (.int p3), .val (.int p4), .val (.int p5), .val (.int ((p1 &&& (3 : Int32)) + (1 : Int32))), .unset, .unset, .unset, .unset, .unset, .unset, .unset] [])) _
    refine XS.iload X0.here hx rfl (hb hby at_30) rfl ?_
    show Steps p.tables e below (s₁.setTop (mkF m 32 #[.val (.int p1), .val (.int p2), .val (.int p3), .val (.int p4), .val (.int p5), .val (.int ((p1 &&& (3 : Int32)) + (1 : Int32))), .unset, .unset, .unset, .unset, .unset, .unset, .unset] [(.int ((p1 &&& (3 : Int32)) + (1 : Int32)))])) _
    refine XS.iconst X0.here hx rfl (hb hby at_32) ?_
    show Steps p.tables e below (s₁.setTop (mkF m 33 #[.val (.int p1), .val (.int p2), .val (.int p3), .val (.int p4), .val (.int p5), .val (.int ((p1 &&& (3 : Int32)) + (1 : Int32))), .unset, .unset, .unset, .unset, .unset, .unset, .unset] [(.int (2 : Int32)), (.int ((p1 &&& (3 : Int32)) + (1 : Int32)))])) _
    refine XS.icmpYes X0.here hx rfl (pc0 := 33) (pc' := 61) rfl (hb hby at_33) rfl (feq hc33).2 (by decide) (by decide) ?_
    show Steps p.tables e below (s₁.setTop (mkF m 61 #[.val (.int p1), .val (.int p2), .val (.int p3), .val (.int p4), .val (.int p5), .val (.int ((p1 &&& (3 : Int32)) + (1 : Int32))), .unset, .unset, .unset, .unset, .unset, .unset, .unset] [])) _
    refine XS.iload X0.here hx rfl (hb hby at_61) rfl ?_
    show Steps p.tables e below (s₁.setTop (mkF m 63 #[.val (.int p1), .val (.int p2), .val (.int p3), .val (.int p4), .val (.int p5), .val (.int ((p1 &&& (3 : Int32)) + (1 : Int32))), .unset, .unset, .unset, .unset, .unset, .unset, .unset] [(.int ((p1 &&& (3 : Int32)) + (1 : Int32)))])) _
    refine XS.iconst X0.here hx rfl (hb hby at_63) ?_
    show Steps p.tables e below (s₁.setTop (mkF m 64 #[.val (.int p1), .val (.int p2), .val (.int p3), .val (.int p4), .val (.int p5), .val (.int ((p1 &&& (3 : Int32)) + (1 : Int32))), .unset, .unset, .unset, .unset, .unset, .unset, .unset] [(.int (3 : Int32)), (.int ((p1 &&& (3 : Int32)) + (1 : Int32)))])) _
    refine XS.icmpNo X0.here hx rfl (hb hby at_64) rfl (teq hc64).2 ?_
    show Steps p.tables e below (s₁.setTop (mkF m 67 #[.val (.int p1), .val (.int p2), .val (.int p3), .val (.int p4), .val (.int p5), .val (.int ((p1 &&& (3 : Int32)) + (1 : Int32))), .unset, .unset, .unset, .unset, .unset, .unset, .unset] [])) _
    refine XS.iconst X0.here hx rfl (hb hby at_67) ?_
    show Steps p.tables e below (s₁.setTop (mkF m 68 #[.val (.int p1), .val (.int p2), .val (.int p3), .val (.int p4), .val (.int p5), .val (.int ((p1 &&& (3 : Int32)) + (1 : Int32))), .unset, .unset, .unset, .unset, .unset, .unset, .unset] [(.int (3 : Int32))])) _
    refine st6 _ ?_
    show Steps p.tables e below (T6.setTop (mkF m 70 #[.val (.int p1), .val (.int p2), .val (.int p3), .val (.int p4), .val (.int p5), .val (.int ((p1 &&& (3 : Int32)) + (1 : Int32))), .unset, .unset, .unset, .unset, .unset, .unset, .unset] [(.ref b6)])) _
    refine XS.dup X6.here hx rfl (hb hby at_70) rfl rfl ?_
    show Steps p.tables e below (T6.setTop (mkF m 71 #[.val (.int p1), .val (.int p2), .val (.int p3), .val (.int p4), .val (.int p5), .val (.int ((p1 &&& (3 : Int32)) + (1 : Int32))), .unset, .unset, .unset, .unset, .unset, .unset, .unset] [(.ref b6), (.ref b6)])) _
    refine XS.iconst X6.here hx rfl (hb hby at_71) ?_
    show Steps p.tables e below (T6.setTop (mkF m 72 #[.val (.int p1), .val (.int p2), .val (.int p3), .val (.int p4), .val (.int p5), .val (.int ((p1 &&& (3 : Int32)) + (1 : Int32))), .unset, .unset, .unset, .unset, .unset, .unset, .unset] [(.int (0 : Int32)), (.ref b6), (.ref b6)])) _
    refine XS.iloadN X6.here hx rfl (hb hby at_72) rfl ?_
    show Steps p.tables e below (T6.setTop (mkF m 73 #[.val (.int p1), .val (.int p2), .val (.int p3), .val (.int p4), .val (.int p5), .val (.int ((p1 &&& (3 : Int32)) + (1 : Int32))), .unset, .unset, .unset, .unset, .unset, .unset, .unset] [(.int p2), (.int (0 : Int32)), (.ref b6), (.ref b6)])) _
    refine own_i2d X6.here hx rfl (hb hby at_73) rfl ?_
    show Steps p.tables e below (T6.setTop (mkF m 74 #[.val (.int p1), .val (.int p2), .val (.int p3), .val (.int p4), .val (.int p5), .val (.int ((p1 &&& (3 : Int32)) + (1 : Int32))), .unset, .unset, .unset, .unset, .unset, .unset, .unset] [(.double (FP.i2d p2)), (.int (0 : Int32)), (.ref b6), (.ref b6)])) _
    refine st7 _ ?_
    show Steps p.tables e below (T7.setTop (mkF m 75 #[.val (.int p1), .val (.int p2), .val (.int p3), .val (.int p4), .val (.int p5), .val (.int ((p1 &&& (3 : Int32)) + (1 : Int32))), .unset, .unset, .unset, .unset, .unset, .unset, .unset] [(.ref b6)])) _
    refine XS.dup X7.here hx rfl (hb hby at_75) rfl rfl ?_
    show Steps p.tables e below (T7.setTop (mkF m 76 #[.val (.int p1), .val (.int p2), .val (.int p3), .val (.int p4), .val (.int p5), .val (.int ((p1 &&& (3 : Int32)) + (1 : Int32))), .unset, .unset, .unset, .unset, .unset, .unset, .unset] [(.ref b6), (.ref b6)])) _
    refine XS.iconst X7.here hx rfl (hb hby at_76) ?_
    show Steps p.tables e below (T7.setTop (mkF m 77 #[.val (.int p1), .val (.int p2), .val (.int p3), .val (.int p4), .val (.int p5), .val (.int ((p1 &&& (3 : Int32)) + (1 : Int32))), .unset, .unset, .unset, .unset, .unset, .unset, .unset] [(.int (1 : Int32)), (.ref b6), (.ref b6)])) _
    refine XS.iloadN X7.here hx rfl (hb hby at_77) rfl ?_
    show Steps p.tables e below (T7.setTop (mkF m 78 #[.val (.int p1), .val (.int p2), .val (.int p3), .val (.int p4), .val (.int p5), .val (.int ((p1 &&& (3 : Int32)) + (1 : Int32))), .unset, .unset, .unset, .unset, .unset, .unset, .unset] [(.int p3), (.int (1 : Int32)), (.ref b6), (.ref b6)])) _
    refine own_i2d X7.here hx rfl (hb hby at_78) rfl ?_
    show Steps p.tables e below (T7.setTop (mkF m 79 #[.val (.int p1), .val (.int p2), .val (.int p3), .val (.int p4), .val (.int p5), .val (.int ((p1 &&& (3 : Int32)) + (1 : Int32))), .unset, .unset, .unset, .unset, .unset, .unset, .unset] [(.double (FP.i2d p3)), (.int (1 : Int32)), (.ref b6), (.ref b6)])) _
    refine st8 _ ?_
    show Steps p.tables e below (T8.setTop (mkF m 80 #[.val (.int p1), .val (.int p2), .val (.int p3), .val (.int p4), .val (.int p5), .val (.int ((p1 &&& (3 : Int32)) + (1 : Int32))), .unset, .unset, .unset, .unset, .unset, .unset, .unset] [(.ref b6)])) _
    refine XS.dup X8.here hx rfl (hb hby at_80) rfl rfl ?_
    show Steps p.tables e below (T8.setTop (mkF m 81 #[.val (.int p1), .val (.int p2), .val (.int p3), .val (.int p4), .val (.int p5), .val (.int ((p1 &&& (3 : Int32)) + (1 : Int32))), .unset, .unset, .unset, .unset, .unset, .unset, .unset] [(.ref b6), (.ref b6)])) _
    refine XS.iconst X8.here hx rfl (hb hby at_81) ?_
    show Steps p.tables e below (T8.setTop (mkF m 82 #[.val (.int p1), .val (.int p2), .val (.int p3), .val (.int p4), .val (.int p5), .val (.int ((p1 &&& (3 : Int32)) + (1 : Int32))), .unset, .unset, .unset, .unset, .unset, .unset, .unset] [(.int (2 : Int32)), (.ref b6), (.ref b6)])) _
    refine XS.iloadN X8.here hx rfl (hb hby at_82) rfl ?_
    show Steps p.tables e below (T8.setTop (mkF m 83 #[.val (.int p1), .val (.int p2), .val (.int p3), .val (.int p4), .val (.int p5), .val (.int ((p1 &&& (3 : Int32)) + (1 : Int32))), .unset, .unset, .unset, .unset, .unset, .unset, .unset] [(.int p4), (.int (2 : Int32)), (.ref b6), (.ref b6)])) _
    refine own_i2d X8.here hx rfl (hb hby at_83) rfl ?_
    show Steps p.tables e below (T8.setTop (mkF m 84 #[.val (.int p1), .val (.int p2), .val (.int p3), .val (.int p4), .val (.int p5), .val (.int ((p1 &&& (3 : Int32)) + (1 : Int32))), .unset, .unset, .unset, .unset, .unset, .unset, .unset] [(.double (FP.i2d p4)), (.int (2 : Int32)), (.ref b6), (.ref b6)])) _
    refine st9 _ ?_
    show Steps p.tables e below (T9.setTop (mkF m 85 #[.val (.int p1), .val (.int p2), .val (.int p3), .val (.int p4), .val (.int p5), .val (.int ((p1 &&& (3 : Int32)) + (1 : Int32))), .unset, .unset, .unset, .unset, .unset, .unset, .unset] [(.ref b6)])) _
    refine XS.astore X9.here hx rfl (hb hby at_85) rfl rfl (l' := #[.val (.int p1), .val (.int p2), .val (.int p3), .val (.int p4), .val (.int p5), .val (.int ((p1 &&& (3 : Int32)) + (1 : Int32))), .val (.ref b6), .unset, .unset, .unset, .unset, .unset, .unset]) rfl ?_
    show Steps p.tables e below (T9.setTop (mkF m 87 #[.val (.int p1), .val (.int p2), .val (.int p3), .val (.int p4), .val (.int p5), .val (.int ((p1 &&& (3 : Int32)) + (1 : Int32))), .val (.ref b6), .unset, .unset, .unset, .unset, .unset, .unset] [])) _
    refine XS.iloadN X9.here hx rfl (hb hby at_87) rfl ?_
    show Steps p.tables e below (T9.setTop (mkF m 88 #[.val (.int p1), .val (.int p2), .val (.int p3), .val (.int p4), .val (.int p5), .val (.int ((p1 &&& (3 : Int32)) + (1 : Int32))), .val (.ref b6), .unset, .unset, .unset, .unset, .unset, .unset] [(.int p2)])) _
    refine XS.i2l X9.here hx rfl (hb hby at_88) rfl ?_
    show Steps p.tables e below (T9.setTop (mkF m 89 #[.val (.int p1), .val (.int p2), .val (.int p3), .val (.int p4), .val (.int p5), .val (.int ((p1 &&& (3 : Int32)) + (1 : Int32))), .val (.ref b6), .unset, .unset, .unset, .unset, .unset, .unset] [(.long (p2.toInt64))])) _
    refine XS.iloadN X9.here hx rfl (hb hby at_89) rfl ?_
    show Steps p.tables e below (T9.setTop (mkF m 90 #[.val (.int p1), .val (.int p2), .val (.int p3), .val (.int p4), .val (.int p5), .val (.int ((p1 &&& (3 : Int32)) + (1 : Int32))), .val (.ref b6), .unset, .unset, .unset, .unset, .unset, .unset] [(.int p3), (.long (p2.toInt64))])) _
    refine XS.i2l X9.here hx rfl (hb hby at_90) rfl ?_
    show Steps p.tables e below (T9.setTop (mkF m 91 #[.val (.int p1), .val (.int p2), .val (.int p3), .val (.int p4), .val (.int p5), .val (.int ((p1 &&& (3 : Int32)) + (1 : Int32))), .val (.ref b6), .unset, .unset, .unset, .unset, .unset, .unset] [(.long (p3.toInt64)), (.long (p2.toInt64))])) _
    refine XS.ladd X9.here hx rfl (hb hby at_91) rfl ?_
    show Steps p.tables e below (T9.setTop (mkF m 92 #[.val (.int p1), .val (.int p2), .val (.int p3), .val (.int p4), .val (.int p5), .val (.int ((p1 &&& (3 : Int32)) + (1 : Int32))), .val (.ref b6), .unset, .unset, .unset, .unset, .unset, .unset] [(.long ((p2.toInt64) + (p3.toInt64)))])) _
    refine XS.iloadN X9.here hx rfl (hb hby at_92) rfl ?_
    show Steps p.tables e below (T9.setTop (mkF m 93 #[.val (.int p1), .val (.int p2), .val (.int p3), .val (.int p4), .val (.int p5), .val (.int ((p1 &&& (3 : Int32)) + (1 : Int32))), .val (.ref b6), .unset, .unset, .unset, .unset, .unset, .unset] [(.int p4), (.long ((p2.toInt64) + (p3.toInt64)))])) _
    refine XS.i2l X9.here hx rfl (hb hby at_93) rfl ?_
    show Steps p.tables e below (T9.setTop (mkF m 94 #[.val (.int p1), .val (.int p2), .val (.int p3), .val (.int p4), .val (.int p5), .val (.int ((p1 &&& (3 : Int32)) + (1 : Int32))), .val (.ref b6), .unset, .unset, .unset, .unset, .unset, .unset] [(.long (p4.toInt64)), (.long ((p2.toInt64) + (p3.toInt64)))])) _
    refine XS.ladd X9.here hx rfl (hb hby at_94) rfl ?_
    show Steps p.tables e below (T9.setTop (mkF m 95 #[.val (.int p1), .val (.int p2), .val (.int p3), .val (.int p4), .val (.int p5), .val (.int ((p1 &&& (3 : Int32)) + (1 : Int32))), .val (.ref b6), .unset, .unset, .unset, .unset, .unset, .unset] [(.long (((p2.toInt64) + (p3.toInt64)) + (p4.toInt64)))])) _
    refine XS.lstore X9.here hx rfl (hb hby at_95) rfl (l' := #[.val (.int p1), .val (.int p2), .val (.int p3), .val (.int p4), .val (.int p5), .val (.int ((p1 &&& (3 : Int32)) + (1 : Int32))), .val (.ref b6), .val (.long (((p2.toInt64) + (p3.toInt64)) + (p4.toInt64))), .second, .unset, .unset, .unset, .unset]) rfl ?_
    show Steps p.tables e below (T9.setTop (mkF m 97 #[.val (.int p1), .val (.int p2), .val (.int p3), .val (.int p4), .val (.int p5), .val (.int ((p1 &&& (3 : Int32)) + (1 : Int32))), .val (.ref b6), .val (.long (((p2.toInt64) + (p3.toInt64)) + (p4.toInt64))), .second, .unset, .unset, .unset, .unset] [])) _
    refine XS.goto X9.here hx rfl (pc0 := 97) (pc' := 140) rfl (hb hby at_97) (by decide) (by decide) ?_
    show Steps p.tables e below (T9.setTop (mkF m 140 #[.val (.int p1), .val (.int p2), .val (.int p3), .val (.int p4), .val (.int p5), .val (.int ((p1 &&& (3 : Int32)) + (1 : Int32))), .val (.ref b6), .val (.long (((p2.toInt64) + (p3.toInt64)) + (p4.toInt64))), .second, .unset, .unset, .unset, .unset] [])) _
    refine st10 _ ?_
    show Steps p.tables e below (T10.setTop (mkF m 143 #[.val (.int p1), .val (.int p2), .val (.int p3), .val (.int p4), .val (.int p5), .val (.int ((p1 &&& (3 : Int32)) + (1 : Int32))), .val (.ref b6), .val (.long (((p2.toInt64) + (p3.toInt64)) + (p4.toInt64))), .second, .unset, .unset, .unset, .unset] [(.ref b10)])) _
    refine XS.dup X10.here hx rfl (hb hby at_143) rfl rfl ?_
    show Steps p.tables e below (T10.setTop (mkF m 144 #[.val (.int p1), .val (.int p2), .val (.int p3), .val (.int p4), .val (.int p5), .val (.int ((p1 &&& (3 : Int32)) + (1 : Int32))), .val (.ref b6), .val (.long (((p2.toInt64) + (p3.toInt64)) + (p4.toInt64))), .second, .unset, .unset, .unset, .unset] [(.ref b10), (.ref b10)])) _
    refine st11.trans ?_
    show Steps p.tables e below (T11.setTop (mkF m 147 #[.val (.int p1), .val (.int p2), .val (.int p3), .val (.int p4), .val (.int p5), .val (.int ((p1 &&& (3 : Int32)) + (1 : Int32))), .val (.ref b6), .val (.long (((p2.toInt64) + (p3.toInt64)) + (p4.toInt64))), .second, .unset, .unset, .unset, .unset] [(.ref b10)])) _
    refine XS.astore X11.here hx rfl (hb hby at_147) rfl rfl (l' := #[.val (.int p1), .val (.int p2), .val (.int p3), .val (.int p4), .val (.int p5), .val (.int ((p1 &&& (3 : Int32)) + (1 : Int32))), .val (.ref b6), .val (.long (((p2.toInt64) + (p3.toInt64)) + (p4.toInt64))), .second, .val (.ref b10), .unset, .unset, .unset]) rfl ?_
    show Steps p.tables e below (T11.setTop (mkF m 149 #[.val (.int p1), .val (.int p2), .val (.int p3), .val (.int p4), .val (.int p5), .val (.int ((p1 &&& (3 : Int32)) + (1 : Int32))), .val (.ref b6), .val (.long (((p2.toInt64) + (p3.toInt64)) + (p4.toInt64))), .second, .val (.ref b10), .unset, .unset, .unset] [])) _
    refine st12 _ ?_
    show Steps p.tables e below (T12.setTop (mkF m 152 #[.val (.int p1), .val (.int p2), .val (.int p3), .val (.int p4), .val (.int p5), .val (.int ((p1 &&& (3 : Int32)) + (1 : Int32))), .val (.ref b6), .val (.long (((p2.toInt64) + (p3.toInt64)) + (p4.toInt64))), .second, .val (.ref b10), .unset, .unset, .unset] [(.ref b12)])) _
    refine XS.dup X12.here hx rfl (hb hby at_152) rfl rfl ?_
    show Steps p.tables e below (T12.setTop (mkF m 153 #[.val (.int p1), .val (.int p2), .val (.int p3), .val (.int p4), .val (.int p5), .val (.int ((p1 &&& (3 : Int32)) + (1 : Int32))), .val (.ref b6), .val (.long (((p2.toInt64) + (p3.toInt64)) + (p4.toInt64))), .second, .val (.ref b10), .unset, .unset, .unset] [(.ref b12), (.ref b12)])) _
    refine XS.aload X12.here hx rfl (hb hby at_153) rfl rfl ?_
    show Steps p.tables e below (T12.setTop (mkF m 155 #[.val (.int p1), .val (.int p2), .val (.int p3), .val (.int p4), .val (.int p5), .val (.int ((p1 &&& (3 : Int32)) + (1 : Int32))), .val (.ref b6), .val (.long (((p2.toInt64) + (p3.toInt64)) + (p4.toInt64))), .second, .val (.ref b10), .unset, .unset, .unset] [(.ref b6), (.ref b12), (.ref b12)])) _
    refine own_dconst0 X12.here hx rfl (hb hby at_155) ?_
    show Steps p.tables e below (T12.setTop (mkF m 156 #[.val (.int p1), .val (.int p2), .val (.int p3), .val (.int p4), .val (.int p5), .val (.int ((p1 &&& (3 : Int32)) + (1 : Int32))), .val (.ref b6), .val (.long (((p2.toInt64) + (p3.toInt64)) + (p4.toInt64))), .second, .val (.ref b10), .unset, .unset, .unset] [(.double FP.dconst0), (.ref b6), (.ref b12), (.ref b12)])) _
    refine XS.aload X12.here hx rfl (hb hby at_156) rfl rfl ?_
    show Steps p.tables e below (T12.setTop (mkF m 158 #[.val (.int p1), .val (.int p2), .val (.int p3), .val (.int p4), .val (.int p5), .val (.int ((p1 &&& (3 : Int32)) + (1 : Int32))), .val (.ref b6), .val (.long (((p2.toInt64) + (p3.toInt64)) + (p4.toInt64))), .second, .val (.ref b10), .unset, .unset, .unset] [(.ref b10), (.double FP.dconst0), (.ref b6), (.ref b12), (.ref b12)])) _
    refine st13.trans ?_
    show Steps p.tables e below (T13.setTop (mkF m 161 #[.val (.int p1), .val (.int p2), .val (.int p3), .val (.int p4), .val (.int p5), .val (.int ((p1 &&& (3 : Int32)) + (1 : Int32))), .val (.ref b6), .val (.long (((p2.toInt64) + (p3.toInt64)) + (p4.toInt64))), .second, .val (.ref b10), .unset, .unset, .unset] [(.ref b12)])) _
    refine XS.astore X13.here hx rfl (hb hby at_161) rfl rfl (l' := #[.val (.int p1), .val (.int p2), .val (.int p3), .val (.int p4), .val (.int p5), .val (.int ((p1 &&& (3 : Int32)) + (1 : Int32))), .val (.ref b6), .val (.long (((p2.toInt64) + (p3.toInt64)) + (p4.toInt64))), .second, .val (.ref b10), .val (.ref b12), .unset, .unset]) rfl ?_
    show Steps p.tables e below (T13.setTop (mkF m 163 #[.val (.int p1), .val (.int p2), .val (.int p3), .val (.int p4), .val (.int p5), .val (.int ((p1 &&& (3 : Int32)) + (1 : Int32))), .val (.ref b6), .val (.long (((p2.toInt64) + (p3.toInt64)) + (p4.toInt64))), .second, .val (.ref b10), .val (.ref b12), .unset, .unset] [])) _
    refine XS.lload X13.here hx rfl (hb hby at_163) rfl ?_
    show Steps p.tables e below (T13.setTop (mkF m 165 #[.val (.int p1), .val (.int p2), .val (.int p3), .val (.int p4), .val (.int p5), .val (.int ((p1 &&& (3 : Int32)) + (1 : Int32))), .val (.ref b6), .val (.long (((p2.toInt64) + (p3.toInt64)) + (p4.toInt64))), .second, .val (.ref b10), .val (.ref b12), .unset, .unset] [(.long (((p2.toInt64) + (p3.toInt64)) + (p4.toInt64)))])) _
    refine own_l2d X13.here hx rfl (hb hby at_165) rfl ?_
    show Steps p.tables e below (T13.setTop (mkF m 166 #[.val (.int p1), .val (.int p2), .val (.int p3), .val (.int p4), .val (.int p5), .val (.int ((p1 &&& (3 : Int32)) + (1 : Int32))), .val (.ref b6), .val (.long (((p2.toInt64) + (p3.toInt64)) + (p4.toInt64))), .second, .val (.ref b10), .val (.ref b12), .unset, .unset] [(.double (FP.l2d (((p2.toInt64) + (p3.toInt64)) + (p4.toInt64))))])) _
    refine XS.iload X13.here hx rfl (hb hby at_166) rfl ?_
    show Steps p.tables e below (T13.setTop (mkF m 168 #[.val (.int p1), .val (.int p2), .val (.int p3), .val (.int p4), .val (.int p5), .val (.int ((p1 &&& (3 : Int32)) + (1 : Int32))), .val (.ref b6), .val (.long (((p2.toInt64) + (p3.toInt64)) + (p4.toInt64))), .second, .val (.ref b10), .val (.ref b12), .unset, .unset] [(.int ((p1 &&& (3 : Int32)) + (1 : Int32))), (.double (FP.l2d (((p2.toInt64) + (p3.toInt64)) + (p4.toInt64))))])) _
    refine own_i2d X13.here hx rfl (hb hby at_168) rfl ?_
    show Steps p.tables e below (T13.setTop (mkF m 169 #[.val (.int p1), .val (.int p2), .val (.int p3), .val (.int p4), .val (.int p5), .val (.int ((p1 &&& (3 : Int32)) + (1 : Int32))), .val (.ref b6), .val (.long (((p2.toInt64) + (p3.toInt64)) + (p4.toInt64))), .second, .val (.ref b10), .val (.ref b12), .unset, .unset] [(.double (FP.i2d ((p1 &&& (3 : Int32)) + (1 : Int32)))), (.double (FP.l2d (((p2.toInt64) + (p3.toInt64)) + (p4.toInt64))))])) _
    refine own_ddiv X13.here hx rfl (hb hby at_169) rfl hE ?_
    show Steps p.tables e below (T13.setTop (mkF m 170 #[.val (.int p1), .val (.int p2), .val (.int p3), .val (.int p4), .val (.int p5), .val (.int ((p1 &&& (3 : Int32)) + (1 : Int32))), .val (.ref b6), .val (.long (((p2.toInt64) + (p3.toInt64)) + (p4.toInt64))), .second, .val (.ref b10), .val (.ref b12), .unset, .unset] [(.double (FP.ddiv (FP.l2d (((p2.toInt64) + (p3.toInt64)) + (p4.toInt64))) (FP.i2d ((p1 &&& (3 : Int32)) + (1 : Int32)))))])) _
    refine own_dstore X13.here hx rfl (hb hby at_170) rfl (l' := #[.val (.int p1), .val (.int p2), .val (.int p3), .val (.int p4), .val (.int p5), .val (.int ((p1 &&& (3 : Int32)) + (1 : Int32))), .val (.ref b6), .val (.long (((p2.toInt64) + (p3.toInt64)) + (p4.toInt64))), .second, .val (.ref b10), .val (.ref b12), .val (.double (FP.ddiv (FP.l2d (((p2.toInt64) + (p3.toInt64)) + (p4.toInt64))) (FP.i2d ((p1 &&& (3 : Int32)) + (1 : Int32))))), .second]) rfl ?_
    show Steps p.tables e below (T13.setTop (mkF m 172 #[.val (.int p1), .val (.int p2), .val (.int p3), .val (.int p4), .val (.int p5), .val (.int ((p1 &&& (3 : Int32)) + (1 : Int32))), .val (.ref b6), .val (.long (((p2.toInt64) + (p3.toInt64)) + (p4.toInt64))), .second, .val (.ref b10), .val (.ref b12), .val (.double (FP.ddiv (FP.l2d (((p2.toInt64) + (p3.toInt64)) + (p4.toInt64))) (FP.i2d ((p1 &&& (3 : Int32)) + (1 : Int32))))), .second] [])) _
    refine XS.aload X13.here hx rfl (hb hby at_172) rfl rfl ?_
    show Steps p.tables e below (T13.setTop (mkF m 174 #[.val (.int p1), .val (.int p2), .val (.int p3), .val (.int p4), .val (.int p5), .val (.int ((p1 &&& (3 : Int32)) + (1 : Int32))), .val (.ref b6), .val (.long (((p2.toInt64) + (p3.toInt64)) + (p4.toInt64))), .second, .val (.ref b10), .val (.ref b12), .val (.double (FP.ddiv (FP.l2d (((p2.toInt64) + (p3.toInt64)) + (p4.toInt64))) (FP.i2d ((p1 &&& (3 : Int32)) + (1 : Int32))))), .second] [(.ref b12)])) _
    refine st14.trans ?_
    show Steps p.tables e below (T14.setTop (mkF m 177 #[.val (.int p1), .val (.int p2), .val (.int p3), .val (.int p4), .val (.int p5), .val (.int ((p1 &&& (3 : Int32)) + (1 : Int32))), .val (.ref b6), .val (.long (((p2.toInt64) + (p3.toInt64)) + (p4.toInt64))), .second, .val (.ref b10), .val (.ref b12), .val (.double (FP.ddiv (FP.l2d (((p2.toInt64) + (p3.toInt64)) + (p4.toInt64))) (FP.i2d ((p1 &&& (3 : Int32)) + (1 : Int32))))), .second] [(.double (FP.ddiv (own_sum (own_ds [p2, p3, p4]) 3) (FP.i2d (Int32.ofNat 3))))])) _
    refine own_dload X14.here hx rfl (hb hby at_177) rfl ?_
    show Steps p.tables e below (T14.setTop (mkF m 179 #[.val (.int p1), .val (.int p2), .val (.int p3), .val (.int p4), .val (.int p5), .val (.int ((p1 &&& (3 : Int32)) + (1 : Int32))), .val (.ref b6), .val (.long (((p2.toInt64) + (p3.toInt64)) + (p4.toInt64))), .second, .val (.ref b10), .val (.ref b12), .val (.double (FP.ddiv (FP.l2d (((p2.toInt64) + (p3.toInt64)) + (p4.toInt64))) (FP.i2d ((p1 &&& (3 : Int32)) + (1 : Int32))))), .second] [(.double (FP.ddiv (FP.l2d (((p2.toInt64) + (p3.toInt64)) + (p4.toInt64))) (FP.i2d ((p1 &&& (3 : Int32)) + (1 : Int32))))), (.double (FP.ddiv (own_sum (own_ds [p2, p3, p4]) 3) (FP.i2d (Int32.ofNat 3))))])) _
    refine own_dcmp X14.here hx rfl (hb hby at_179) rfl (k := 0) hC ?_
    show Steps p.tables e below (T14.setTop (mkF m 180 #[.val (.int p1), .val (.int p2), .val (.int p3), .val (.int p4), .val (.int p5), .val (.int ((p1 &&& (3 : Int32)) + (1 : Int32))), .val (.ref b6), .val (.long (((p2.toInt64) + (p3.toInt64)) + (p4.toInt64))), .second, .val (.ref b10), .val (.ref b12), .val (.double (FP.ddiv (FP.l2d (((p2.toInt64) + (p3.toInt64)) + (p4.toInt64))) (FP.i2d ((p1 &&& (3 : Int32)) + (1 : Int32))))), .second] [(.int (0 : Int32))])) _
    refine XS.ifNo X14.here hx rfl (hb hby at_180) rfl ((if0 _ _).trans (teq (rfl : (0 : Int32) = (0 : Int32))).2) ?_
    show Steps p.tables e below (T14.setTop (mkF m 183 #[.val (.int p1), .val (.int p2), .val (.int p3), .val (.int p4), .val (.int p5), .val (.int ((p1 &&& (3 : Int32)) + (1 : Int32))), .val (.ref b6), .val (.long (((p2.toInt64) + (p3.toInt64)) + (p4.toInt64))), .second, .val (.ref b10), .val (.ref b12), .val (.double (FP.ddiv (FP.l2d (((p2.toInt64) + (p3.toInt64)) + (p4.toInt64))) (FP.i2d ((p1 &&& (3 : Int32)) + (1 : Int32))))), .second] [])) _
    refine XS.iconst X14.here hx rfl (hb hby at_183) ?_
    show Steps p.tables e below (T14.setTop (mkF m 184 #[.val (.int p1), .val (.int p2), .val (.int p3), .val (.int p4), .val (.int p5), .val (.int ((p1 &&& (3 : Int32)) + (1 : Int32))), .val (.ref b6), .val (.long (((p2.toInt64) + (p3.toInt64)) + (p4.toInt64))), .second, .val (.ref b10), .val (.ref b12), .val (.double (FP.ddiv (FP.l2d (((p2.toInt64) + (p3.toInt64)) + (p4.toInt64))) (FP.i2d ((p1 &&& (3 : Int32)) + (1 : Int32))))), .second] [(.int (1 : Int32))])) _
    refine XS.goto X14.here hx rfl (pc0 := 184) (pc' := 188) rfl (hb hby at_184) (by decide) (by decide) ?_
    show Steps p.tables e below (T14.setTop (mkF m 188 #[.val (.int p1), .val (.int p2), .val (.int p3), .val (.int p4), .val (.int p5), .val (.int ((p1 &&& (3 : Int32)) + (1 : Int32))), .val (.ref b6), .val (.long (((p2.toInt64) + (p3.toInt64)) + (p4.toInt64))), .second, .val (.ref b10), .val (.ref b12), .val (.double (FP.ddiv (FP.l2d (((p2.toInt64) + (p3.toInt64)) + (p4.toInt64))) (FP.i2d ((p1 &&& (3 : Int32)) + (1 : Int32))))), .second] [(.int (1 : Int32))])) _
    exact retN X14 hx (t := .boolean) Bd.returns (by simp) (hb hby at_188) hr
  · show Q0 h0 n0 _ T14.heap _
    exact ⟨rfl, N14⟩
set_option maxRecDepth 65536 in
set_option maxHeartbeats 40000000 in
theorem rm0_4 (l : Launch) (Z : State) (a0 : Array Value) (hw : ∀ d ∈ tables_1, d.before a0 Z = true) (ws : List Jvm.Cond) (p1 p2 p3 p4 p5 : Int32) (w3 : Addr) (h0 : Heap) (n0 : Nat) (Z0 : n0 ≤ h0.size) (S_D : Sta Z Z.heap "java/util/ArrayList" "DEFAULTCAPACITY_EMPTY_ELEMENTDATA" "[Ljava/lang/Object;" (.ref w3)) (X00 : Old Z n0 h0) (hNN : ((p1 &&& (3 : Int32)) + (1 : Int32)) = Int32.ofNat 4) (hc10 : ¬ (((p1 &&& (3 : Int32)) + (1 : Int32)) = (1 : Int32))) (hc33 : ¬ (((p1 &&& (3 : Int32)) + (1 : Int32)) = (2 : Int32))) (hc64 : ¬ (((p1 &&& (3 : Int32)) + (1 : Int32)) = (3 : Int32))) :
    MetFree l x (head1 (Jvm.Cond.code x code maxLocals ret :: ws) room_1) (fun a U => a = #[(.int p1), (.int p2), (.int p3), (.int p4), (.int p5)] ∧ Z.Warmed39 U.vm ∧ U.heap = h0) (fun _ _ _ _ _ => True) (fun _ U o U' => ∃ v L, o = .returned v ∧ Q0 h0 n0 v U'.heap L ∧ FrameEnd U o U' L room_1.cells room_1.slots) := by
  refine MetFree.of_bodySF (plainFor_of_name pn_0) hisR ?_
  intro p e s m args below meth c s₁ Bd hml0 hP hK
  obtain ⟨rfl, hZ, hh⟩ := hP
  have hx := Bd.exec
  have hby := Bd.bytes
  have hml : c.maxLocals = 13 := hml0
  have hown : s.vm.findClass "com/example/tidegrid/tidegrid/TimedMeanPinLaw" = some m.cls := findClass_of_methodNamed Bd.named
  have hnm := (name_of_methodNamed Bd.named Bd.method).1
  have X0 : Stand p l e room_1 s m #[(.int p1), (.int p2), (.int p3), (.int p4), (.int p5)] below meth c s₁ [] 0 0 := Stand.of_body Bd
  have e0 : s₁.heap = h0 := by rw [← hh, Bd.state]; rfl
  have N0 := Fr.nil n0
  have pre0 : ∀ t, Steps p.tables e below (s₁.setTop (mkF m 0 #[.val (.int p1), .val (.int p2), .val (.int p3), .val (.int p4), .val (.int p5), .unset, .unset, .unset, .unset, .unset, .unset, .unset, .unset] [])) t → Steps p.tables e below (s₁.setTop (entryFrame m #[(.int p1), (.int p2), (.int p3), (.int p4), (.int p5)] maxLocals)) t := fun t k => castTop (ef_0 m p1 p2 p3 p4 p5) k
  obtain ⟨T6, h6, k6, X6, e6, E6, A6, st6⟩ := newP X0 hx hZ (hw _ (List.mem_of_getElem? (i := 0) rfl)) e0 (g := (mkF m 101 #[.val (.int p1), .val (.int p2), .val (.int p3), .val (.int p4), .val (.int p5), .val (.int ((p1 &&& (3 : Int32)) + (1 : Int32))), .unset, .unset, .unset, .unset, .unset, .unset, .unset] [(.int (4 : Int32))])) rfl (hb hby at_101) rfl (by decide) (cap := 4) (by decide) (by decide) (by decide) (by decide)
  obtain ⟨b6, g6⟩ : ∃ z, z = h0.size := ⟨_, rfl⟩
  rw [← g6] at A6 st6
  have V_b6 : Arv Z h6 b6 k6 .double (4 : Int32) [(.double 0), (.double 0), (.double 0), (.double 0)] (.double 0) := (Arv.new A6 (by decide)).pad (pad_rep [] (.double 0) 4)
  have g_b6 : n0 ≤ b6 := Nat.le_trans Z0 (Nat.le_of_eq g6.symm)
  have sz_b6 : h0.size ≤ b6 := (Nat.le_trans (Keep.refl h0 []).1 (Nat.le_of_eq g6.symm))
  have K6 : Keep h0 h6 [] := (Keep.refl h0 []).ext E6
  obtain ⟨cl_b6_107, Ar_b6, q_b6, S_b6, N_b6, H_b6, G_b6⟩ := V_b6
  have hin107 : ¬ ((0 : Int32) < 0 ∨ cl_b6_107.slots.size ≤ ((0 : Int32)).toNatClampNeg) := inb_of S_b6 ⟨by decide, by decide⟩
  obtain ⟨T7, h7, X7, e7, W7, st7⟩ := stD X6 hx hZ e6 Ar_b6 (j := (0 : Int32)) hin107 (g := (mkF m 107 #[.val (.int p1), .val (.int p2), .val (.int p3), .val (.int p4), .val (.int p5), .val (.int ((p1 &&& (3 : Int32)) + (1 : Int32))), .unset, .unset, .unset, .unset, .unset, .unset, .unset] [(.double (FP.i2d p2)), (.int (0 : Int32)), (.ref b6), (.ref b6)])) rfl rfl (hb hby at_107)
  have V_b6_7 := Arv.set Ar_b6 q_b6 S_b6 N_b6 H_b6 G_b6 rfl W7 0 rfl (Nat.le_of_ble_eq_true rfl)
  have K7 : Keep h0 h7 [] := K6.wr W7 (Or.inr sz_b6)
  have N7 := Fr.snoc X7 N0 g_b6
  obtain ⟨cl_b6_112, Ar_b6, q_b6, S_b6, N_b6, H_b6, G_b6⟩ := V_b6_7
  have hin112 : ¬ ((1 : Int32) < 0 ∨ cl_b6_112.slots.size ≤ ((1 : Int32)).toNatClampNeg) := inb_of S_b6 ⟨by decide, by decide⟩
  obtain ⟨T8, h8, X8, e8, W8, st8⟩ := stD X7 hx hZ e7 Ar_b6 (j := (1 : Int32)) hin112 (g := (mkF m 112 #[.val (.int p1), .val (.int p2), .val (.int p3), .val (.int p4), .val (.int p5), .val (.int ((p1 &&& (3 : Int32)) + (1 : Int32))), .unset, .unset, .unset, .unset, .unset, .unset, .unset] [(.double (FP.i2d p3)), (.int (1 : Int32)), (.ref b6), (.ref b6)])) rfl rfl (hb hby at_112)
  have V_b6_8 := Arv.set Ar_b6 q_b6 S_b6 N_b6 H_b6 G_b6 rfl W8 1 rfl (Nat.le_of_ble_eq_true rfl)
  have K8 : Keep h0 h8 [] := K7.wr W8 (Or.inr sz_b6)
  have N8 := Fr.snoc X8 N7 g_b6
  obtain ⟨cl_b6_117, Ar_b6, q_b6, S_b6, N_b6, H_b6, G_b6⟩ := V_b6_8
  have hin117 : ¬ ((2 : Int32) < 0 ∨ cl_b6_117.slots.size ≤ ((2 : Int32)).toNatClampNeg) := inb_of S_b6 ⟨by decide, by decide⟩
  obtain ⟨T9, h9, X9, e9, W9, st9⟩ := stD X8 hx hZ e8 Ar_b6 (j := (2 : Int32)) hin117 (g := (mkF m 117 #[.val (.int p1), .val (.int p2), .val (.int p3), .val (.int p4), .val (.int p5), .val (.int ((p1 &&& (3 : Int32)) + (1 : Int32))), .unset, .unset, .unset, .unset, .unset, .unset, .unset] [(.double (FP.i2d p4)), (.int (2 : Int32)), (.ref b6), (.ref b6)])) rfl rfl (hb hby at_117)
  have V_b6_9 := Arv.set Ar_b6 q_b6 S_b6 N_b6 H_b6 G_b6 rfl W9 2 rfl (Nat.le_of_ble_eq_true rfl)
  have K9 : Keep h0 h9 [] := K8.wr W9 (Or.inr sz_b6)
  have N9 := Fr.snoc X9 N8 g_b6
  obtain ⟨cl_b6_123, Ar_b6, q_b6, S_b6, N_b6, H_b6, G_b6⟩ := V_b6_9
  have hin123 : ¬ ((3 : Int32) < 0 ∨ cl_b6_123.slots.size ≤ ((3 : Int32)).toNatClampNeg) := inb_of S_b6 ⟨by decide, by decide⟩
  obtain ⟨T10, h10, X10, e10, W10, st10⟩ := stD X9 hx hZ e9 Ar_b6 (j := (3 : Int32)) hin123 (g := (mkF m 123 #[.val (.int p1), .val (.int p2), .val (.int p3), .val (.int p4), .val (.int p5), .val (.int ((p1 &&& (3 : Int32)) + (1 : Int32))), .unset, .unset, .unset, .unset, .unset, .unset, .unset] [(.double (FP.i2d p5)), (.int (3 : Int32)), (.ref b6), (.ref b6)])) rfl rfl (hb hby at_123)
  have V_b6_10 := Arv.set Ar_b6 q_b6 S_b6 N_b6 H_b6 G_b6 rfl W10 3 rfl (Nat.le_of_ble_eq_true rfl)
  have K10 : Keep h0 h10 [] := K9.wr W10 (Or.inr sz_b6)
  have N10 := Fr.snoc X10 N9 g_b6
  obtain ⟨T11, h11, X11, e11, E11, A11, D11, -, st11⟩ := newO X10 hx hZ hown (hw _ (List.mem_of_getElem? (i := 1) rfl)) (hw _ (List.mem_of_getElem? (i := 2) rfl)) (hw _ (List.mem_of_getElem? (i := 3) rfl)) e10 (g := (mkF m 140 #[.val (.int p1), .val (.int p2), .val (.int p3), .val (.int p4), .val (.int p5), .val (.int ((p1 &&& (3 : Int32)) + (1 : Int32))), .val (.ref b6), .val (.long ((((p2.toInt64) + (p3.toInt64)) + (p4.toInt64)) + (p5.toInt64))), .second, .unset, .unset, .unset, .unset] [])) rfl (hb hby at_140) (by decide) (by decide)
  obtain ⟨b11, g11⟩ : ∃ z, z = h10.size := ⟨_, rfl⟩
  rw [← g11] at A11 D11 st11
  have F_modCount_b11 : Fld Z h11 b11 "java/util/AbstractList" "modCount" "I" (.int (0 : Int32)) := D11 (Or.inl (hw _ (List.mem_of_getElem? (i := 23) rfl))) (ty := .int) (by decide)
  have F_elementData_b11 : Fld Z h11 b11 "java/util/ArrayList" "elementData" "[Ljava/lang/Object;" .null := D11 (Or.inl (hw _ (List.mem_of_getElem? (i := 26) rfl))) (ty := (.array (.object "java/lang/Object"))) (by decide)
  have E_b11 := A11
  have g_b11 : n0 ≤ b11 := Nat.le_trans (Nat.le_trans (Nat.le_trans (Nat.le_trans (Nat.le_trans (Nat.le_trans Z0 E6.1) (Keep.of_wr W7).1) (Keep.of_wr W8).1) (Keep.of_wr W9).1) (Keep.of_wr W10).1) (Nat.le_of_eq g11.symm)
  have sz_b11 : h0.size ≤ b11 := (Nat.le_trans K10.1 (Nat.le_of_eq g11.symm))
  have K11 : Keep h0 h11 [] := K10.ext E11
  have F_mc : Fld Z h11 b11 "java/util/AbstractList" "modCount" "I" (.int (0 : Int32)) := D11 (Or.inl (hw _ (List.mem_of_getElem? (i := 23) rfl))) (ty := .int) (by decide)
  have Xo : Old Z n0 h11 := (((((X00.ext E6).wr W7 g_b6).wr W8 g_b6).wr W9 g_b6).wr W10 g_b6).ext E11
  have Za : n0 ≤ h11.size := Nat.le_trans Z0 K11.1
  have B0 : own_Da Z h11 b6 4 (own_ds [p2, p3, p4, p5]) := (own_list (N := 4) ([p2, p3, p4, p5].map FP.i2d) (by decide) rfl V_b6_10).ext E11
  have lt0 : b6 < b11 := Nat.lt_of_lt_of_le (Arv.lt V_b6_10) (Nat.le_of_eq g11.symm)
  obtain ⟨_, _, ⟨T12, L12, k12, n12⟩, -, X12, ⟨Lc12, hQ12, l12, y12, z12⟩, st12⟩ := X11.specialBack hx (y := (⟨"java/util/ArrayList", "<init>", "()V"⟩ : MethodName)) rfl hown (mvT hZ (hw _ (List.mem_of_getElem? (i := 4) rfl))) (mvT hZ (hw _ (List.mem_of_getElem? (i := 5) rfl))) (mvT hZ (hw _ (List.mem_of_getElem? (i := 6) rfl))) (by decide) (backOf (W := 1) (r1 l Z a0 hw [] b11 w3 _ _ h11 n0 Za (S_D.ext Xo.2) E_b11 F_elementData_b11 g_b11 F_mc) hZ (hw _ (List.mem_of_getElem? (i := 6) rfl)) (hw _ (List.mem_of_getElem? (i := 3) rfl)) (by decide) (by decide)) (g := (mkF m 144 #[.val (.int p1), .val (.int p2), .val (.int p3), .val (.int p4), .val (.int p5), .val (.int ((p1 &&& (3 : Int32)) + (1 : Int32))), .val (.ref b6), .val (.long ((((p2.toInt64) + (p3.toInt64)) + (p4.toInt64)) + (p5.toInt64))), .second, .unset, .unset, .unset, .unset] [(.ref b11), (.ref b11)])) rfl (by rw [hml]; rfl) (Steps.refl _) (a := b11) (argsL := []) (rest := [(.ref b11)]) (lenOf pd_0_0 rfl) rfl (by show 2 * 0 + _ ≤ _; exact Nat.le_of_eq rfl) (hb hby at_144) (fun _ _ => ⟨rfl, e11, (by decide : 2 + 0 ≤ _), (by decide : 7 + 0 ≤ _)⟩)
  dsimp only [Pt.U, Pt.locs, Pt.cells, Pt.slots] at X12 l12 y12 z12 st12 hQ12
  subst l12 y12 z12
  obtain ⟨rfl, N12q, K12⟩ := hQ12
  have N12 := Fr.app N10 N12q
  have Z12 : n0 ≤ T12.heap.size := Nat.le_trans Za K12.1
  obtain ⟨T13, h13, X13, e13, E13, A13, D13, -, st13⟩ := newO X12 hx hZ hown (hw _ (List.mem_of_getElem? (i := 27) rfl)) (hw _ (List.mem_of_getElem? (i := 28) rfl)) (hw _ (List.mem_of_getElem? (i := 29) rfl)) rfl (g := (mkF m 149 #[.val (.int p1), .val (.int p2), .val (.int p3), .val (.int p4), .val (.int p5), .val (.int ((p1 &&& (3 : Int32)) + (1 : Int32))), .val (.ref b6), .val (.long ((((p2.toInt64) + (p3.toInt64)) + (p4.toInt64)) + (p5.toInt64))), .second, .val (.ref b11), .unset, .unset, .unset] [])) rfl (hb hby at_149) (by decide) (by decide)
  obtain ⟨b13, g13⟩ : ∃ z, z = T12.heap.size := ⟨_, rfl⟩
  rw [← g13] at A13 D13 st13
  have F_ms_b13 : Fld Z h13 b13 "com/example/tidegrid/tidegrid/Benchmark$Timed" "ms" "[D" .null := D13 (Or.inr (hw _ (List.mem_of_getElem? (i := 40) rfl))) (ty := (.array .double)) (by decide)
  have F_examinedMean_b13 : Fld Z h13 b13 "com/example/tidegrid/tidegrid/Benchmark$Timed" "examinedMean" "D" (.double 0) := D13 (Or.inr (hw _ (List.mem_of_getElem? (i := 42) rfl))) (ty := .double) (by decide)
  have F_checked_b13 : Fld Z h13 b13 "com/example/tidegrid/tidegrid/Benchmark$Timed" "checked" "Ljava/util/List;" .null := D13 (Or.inr (hw _ (List.mem_of_getElem? (i := 44) rfl))) (ty := (.object "java/util/List")) (by decide)
  have E_b13 := A13
  have g_b13 : n0 ≤ b13 := Nat.le_trans Z12 (Nat.le_of_eq g13.symm)
  have Zt : n0 ≤ h13.size := Nat.le_trans Z12 E13.1
  have B1 : own_Da Z h13 b6 4 (own_ds [p2, p3, p4, p5]) := (B0.keep K12 (ninS (Nat.ne_of_lt lt0) nin0)).ext E13
  have lt1 : b6 < b13 := Nat.lt_of_lt_of_le lt0 (Nat.le_trans (Nat.le_of_lt (Nat.lt_of_lt_of_le E_b11.lt K12.1)) (Nat.le_of_eq g13.symm))
  obtain ⟨_, _, ⟨T14, L14, k14, n14⟩, -, X14, ⟨Lc14, hQ14, l14, y14, z14⟩, st14⟩ := X13.specialBack hx (y := (⟨"com/example/tidegrid/tidegrid/Benchmark$Timed", "<init>", "([DDLjava/util/List;)V"⟩ : MethodName)) rfl hown (mvT hZ (hw _ (List.mem_of_getElem? (i := 30) rfl))) (mvT hZ (hw _ (List.mem_of_getElem? (i := 31) rfl))) (mvT hZ (hw _ (List.mem_of_getElem? (i := 32) rfl))) (by decide) (backOf (W := 1) (r5 l Z a0 hw [] b13 b6 FP.dconst0 b11 _ _ _ h13 n0 Zt E_b13 F_ms_b13 g_b13 F_examinedMean_b13 F_checked_b13) hZ (hw _ (List.mem_of_getElem? (i := 32) rfl)) (hw _ (List.mem_of_getElem? (i := 29) rfl)) (by decide) (by decide)) (g := (mkF m 158 #[.val (.int p1), .val (.int p2), .val (.int p3), .val (.int p4), .val (.int p5), .val (.int ((p1 &&& (3 : Int32)) + (1 : Int32))), .val (.ref b6), .val (.long ((((p2.toInt64) + (p3.toInt64)) + (p4.toInt64)) + (p5.toInt64))), .second, .val (.ref b11), .unset, .unset, .unset] [(.ref b11), (.double FP.dconst0), (.ref b6), (.ref b13), (.ref b13)])) rfl (by rw [hml]; rfl) (Steps.refl _) (a := b13) (argsL := [(.ref b6), (.double FP.dconst0), (.ref b11)]) (rest := [(.ref b13)]) (lenOf pd_0_1 rfl) rfl (by show 2 * 0 + _ ≤ _; exact Nat.le_of_eq rfl) (hb hby at_158) (fun _ _ => ⟨rfl, e13, (by decide : 3 + 0 ≤ _), (by decide : 10 + 0 ≤ _)⟩)
  dsimp only [Pt.U, Pt.locs, Pt.cells, Pt.slots] at X14 l14 y14 z14 st14 hQ14
  subst l14 y14 z14
  obtain ⟨rfl, N14q, K14, F14⟩ := hQ14
  have N14 := Fr.app N12 N14q
  obtain ⟨cq15, kq15, q15a, q15b, q15c⟩ := isOf hZ rfl (E_b13.keep K14)
  have Zm : n0 ≤ T14.heap.size := Nat.le_trans Zt K14.1
  have B2 : own_Da Z T14.heap b6 4 (own_ds [p2, p3, p4, p5]) := B1.keep K14 (ninS (Nat.ne_of_lt lt1) nin0)
  have hS1 := own_sums (own_ds [p2, p3, p4, p5]) (own_is [p2, p3, p4, p5]) (own_isb [p2, p3, p4, p5]) (own_dsd [p2, p3, p4, p5]) 4 (by decide)
  have hM := own_not_nan (own_div_num hS1 (by decide) (own_len 4 (by decide)))
  obtain ⟨_, _, ⟨T15, L15, k15, n15⟩, -, X15, ⟨Lc15, hQ15, l15, y15, z15⟩, st15⟩ := X14.virtualBack hx (y := (⟨"com/example/tidegrid/tidegrid/Benchmark$Timed", "mean", "()D"⟩ : MethodName)) (z := (⟨"com/example/tidegrid/tidegrid/Benchmark$Timed", "mean", "()D"⟩ : MethodName)) hown (mvT hZ (hw _ (List.mem_of_getElem? (i := 45) rfl))) (mvT hZ (hw _ (List.mem_of_getElem? (i := 46) rfl))) (notFace_of_selects (args := #[]) (mvT hZ (hw _ (List.mem_of_getElem? (i := 48) rfl)))) (mvT hZ (hw _ (List.mem_of_getElem? (i := 48) rfl))) (mvT hZ (hw _ (List.mem_of_getElem? (i := 47) rfl))) (by decide) (backOf (W := 0) (r7 l Z a0 hw [] b13 b6 4 (own_ds [p2, p3, p4, p5]) T14.heap n0 Zm (by decide) F14 B2 (own_nums (own_ds [p2, p3, p4, p5]) (own_is [p2, p3, p4, p5]) (own_isb [p2, p3, p4, p5]) (own_dsd [p2, p3, p4, p5]) 4 (by decide)) hM) hZ (hw _ (List.mem_of_getElem? (i := 49) rfl)) (hw _ (List.mem_of_getElem? (i := 29) rfl)) (by decide) (by decide)) q15a q15c (g := (mkF m 174 #[.val (.int p1), .val (.int p2), .val (.int p3), .val (.int p4), .val (.int p5), .val (.int ((p1 &&& (3 : Int32)) + (1 : Int32))), .val (.ref b6), .val (.long ((((p2.toInt64) + (p3.toInt64)) + (p4.toInt64)) + (p5.toInt64))), .second, .val (.ref b11), .val (.ref b13), .val (.double (FP.ddiv (FP.l2d ((((p2.toInt64) + (p3.toInt64)) + (p4.toInt64)) + (p5.toInt64))) (FP.i2d ((p1 &&& (3 : Int32)) + (1 : Int32))))), .second] [(.ref b13)])) rfl (by rw [hml]; rfl) (Steps.refl _) (argsL := []) (rest := []) (lenOf pd_0_2 rfl) rfl (by show 2 * 0 + _ ≤ _; exact Nat.le_of_eq rfl) (hb hby at_174) (fun _ _ => ⟨rfl, rfl, (by decide : 3 + 0 ≤ _), (by decide : 10 + 0 ≤ _)⟩)
  dsimp only [Pt.U, Pt.locs, Pt.cells, Pt.slots] at X15 l15 y15 z15 st15 hQ15
  subst l15 y15 z15
  obtain ⟨rfl, N15q, e15⟩ := hQ15
  have N15 := Fr.app N14 N15q
  have hL : (((((p2.toInt64) + (p3.toInt64)) + (p4.toInt64)) + (p5.toInt64)) : Int64).toInt = own_isum (own_is [p2, p3, p4, p5]) 4 := by
    show _ = 0 + p2.toInt + p3.toInt + p4.toInt + p5.toInt
    have i0 := c_i2l p2
    have r0 := rng32 p2
    have i1 := c_i2l p3
    have r1 := rng32 p3
    have a1 := c_ladd (p2.toInt64) (p3.toInt64)
    have b1 := rng64 ((p2.toInt64) + (p3.toInt64))
    have i2 := c_i2l p4
    have r2 := rng32 p4
    have a2 := c_ladd ((p2.toInt64) + (p3.toInt64)) (p4.toInt64)
    have b2 := rng64 (((p2.toInt64) + (p3.toInt64)) + (p4.toInt64))
    have i3 := c_i2l p5
    have r3 := rng32 p5
    have a3 := c_ladd (((p2.toInt64) + (p3.toInt64)) + (p4.toInt64)) (p5.toInt64)
    have b3 := rng64 ((((p2.toInt64) + (p3.toInt64)) + (p4.toInt64)) + (p5.toInt64))
    omega
  have hLb := own_isum_le (own_is [p2, p3, p4, p5]) (own_isb [p2, p3, p4, p5]) 4
  have hD : Jvm.FP.Core.DInt (own_isum (own_is [p2, p3, p4, p5]) 4) (FP.l2d ((((p2.toInt64) + (p3.toInt64)) + (p4.toInt64)) + (p5.toInt64))) := by
    rw [← hL]
    exact Jvm.FP.Core.l2d_int (by rw [hL]; omega)
  have hE : (FP.ddiv (FP.l2d ((((p2.toInt64) + (p3.toInt64)) + (p4.toInt64)) + (p5.toInt64))) (FP.i2d ((p1 &&& (3 : Int32)) + (1 : Int32)))) &&& 0x7fffffffffffffff ≤ 0x7ff0000000000000 := by
    rw [hNN]
    exact own_not_nan (own_div_num hD (by decide) (own_len 4 (by decide)))
  have hC : cmpValue (FP.dcmp (FP.ddiv (own_sum (own_ds [p2, p3, p4, p5]) 4) (FP.i2d (Int32.ofNat 4))) (FP.ddiv (FP.l2d ((((p2.toInt64) + (p3.toInt64)) + (p4.toInt64)) + (p5.toInt64))) (FP.i2d ((p1 &&& (3 : Int32)) + (1 : Int32))))) .l = 0 := by
    rw [hNN, own_same_mean hS1 hD (by decide) (own_len 4 (by decide))]
    rfl
  obtain ⟨fs, hr, hrun, hended, hW, hsame⟩ := X15.leave (v := some (.int (1 : Int32))) (fun h => by rw [Bd.returns] at h; cases h)
  refine ⟨_, _, pre0 _ ?_, hrun, hended, _, _, rfl, ?_, ⟨_, rfl⟩, hW, hsame.mono (by decide) (by decide)⟩
  · show Steps p.tables e below (s₁.setTop (mkF m 0 #[.val (.int p1), .val (.int p2), .val (.int p3), .val (.int p4), .val (.int p5), .unset, .unset, .unset, .unset, .unset, .unset, .unset, .unset] [])) _
    refine XS.iloadN X0.here hx rfl (hb hby at_0) rfl ?_
    show Steps p.tables e below (s₁.setTop (mkF m 1 #[.val (.int p1), .val (.int p2), .val (.int p3), .val (.int p4), .val (.int p5), .unset, .unset, .unset, .unset, .unset, .unset, .unset, .unset] [(.int p1)])) _
    refine XS.iconst X0.here hx rfl (hb hby at_1) ?_
    show Steps p.tables e below (s₁.setTop (mkF m 2 #[.val (.int p1), .val (.int p2), .val (.int p3), .val (.int p4), .val (.int p5), .unset, .unset, .unset, .unset, .unset, .unset, .unset, .unset] [(.int (3 : Int32)), (.int p1)])) _
    refine XS.iand X0.here hx rfl (hb hby at_2) rfl ?_
    show Steps p.tables e below (s₁.setTop (mkF m 3 #[.val (.int p1), .val (.int p2), .val (.int p3), .val (.int p4), .val (.int p5), .unset, .unset, .unset, .unset, .unset, .unset, .unset, .unset] [(.int (p1 &&& (3 : Int32)))])) _
    refine XS.iconst X0.here hx rfl (hb hby at_3) ?_
    show Steps p.tables e below (s₁.setTop (mkF m 4 #[.val (.int p1), .val (.int p2), .val (.int p3), .val (.int p4), .val (.int p5), .unset, .unset, .unset, .unset, .unset, .unset, .unset, .unset] [(.int (1 : Int32)), (.int (p1 &&& (3 : Int32)))])) _
    refine XS.iadd X0.here hx rfl (hb hby at_4) rfl ?_
    show Steps p.tables e below (s₁.setTop (mkF m 5 #[.val (.int p1), .val (.int p2), .val (.int p3), .val (.int p4), .val (.int p5), .unset, .unset, .unset, .unset, .unset, .unset, .unset, .unset] [(.int ((p1 &&& (3 : Int32)) + (1 : Int32)))])) _
    refine XS.istore X0.here hx rfl (hb hby at_5) rfl (l' := #[.val (.int p1), .val (.int p2), .val (.int p3), .val (.int p4), .val (.int p5), .val (.int ((p1 &&& (3 : Int32)) + (1 : Int32))), .unset, .unset, .unset, .unset, .unset, .unset, .unset]) rfl ?_
    show Steps p.tables e below (s₁.setTop (mkF m 7 #[.val (.int p1), .val (.int p2), .val (.int p3), .val (.int p4), .val (.int p5), .val (.int ((p1 &&& (3 : Int32)) + (1 : Int32))), .unset, .unset, .unset, .unset, .unset, .unset, .unset] [])) _
    refine XS.iload X0.here hx rfl (hb hby at_7) rfl ?_
    show Steps p.tables e below (s₁.setTop (mkF m 9 #[.val (.int p1), .val (.int p2), .val (.int p3), .val (.int p4), .val (.int p5), .val (.int ((p1 &&& (3 : Int32)) + (1 : Int32))), .unset, .unset, .unset, .unset, .unset, .unset, .unset] [(.int ((p1 &&& (3 : Int32)) + (1 : Int32)))])) _
    refine XS.iconst X0.here hx rfl (hb hby at_9) ?_
    show Steps p.tables e below (s₁.setTop (mkF m 10 #[.val (.int p1), .val (.int p2), .val (.int p3), .val (.int p4), .val (.int p5), .val (.int ((p1 &&& (3 : Int32)) + (1 : Int32))), .unset, .unset, .unset, .unset, .unset, .unset, .unset] [(.int (1 : Int32)), (.int ((p1 &&& (3 : Int32)) + (1 : Int32)))])) _
    refine XS.icmpYes X0.here hx rfl (pc0 := 10) (pc' := 30) rfl (hb hby at_10) rfl (feq hc10).2 (by decide) (by decide) ?_
    show Steps p.tables e below (s₁.setTop (mkF m 30 #[.val (.int p1), .val (.int p2), .val (.int p3), .val (.int p4), .val (.int p5), .val (.int ((p1 &&& (3 : Int32)) + (1 : Int32))), .unset, .unset, .unset, .unset, .unset, .unset, .unset] [])) _
    refine XS.iload X0.here hx rfl (hb hby at_30) rfl ?_
    show Steps p.tables e below (s₁.setTop (mkF m 32 #[.val (.int p1), .val (.int p2), .val (.int p3), .val (.int p4), .val (.int p5), .val (.int ((p1 &&& (3 : Int32)) + (1 : Int32))), .unset, .unset, .unset, .unset, .unset, .unset, .unset] [(.int ((p1 &&& (3 : Int32)) + (1 : Int32)))])) _
    refine XS.iconst X0.here hx rfl (hb hby at_32) ?_
    show Steps p.tables e below (s₁.setTop (mkF m 33 #[.val (.int p1), .val (.int p2), .val (.int p3), .val (.int p4), .val (.int p5), .val (.int ((p1 &&& (3 : Int32)) + (1 : Int32))), .unset, .unset, .unset, .unset, .unset, .unset, .unset] [(.int (2 : Int32)), (.int ((p1 &&& (3 : Int32)) + (1 : Int32)))])) _
    refine XS.icmpYes X0.here hx rfl (pc0 := 33) (pc' := 61) rfl (hb hby at_33) rfl (feq hc33).2 (by decide) (by decide) ?_
    show Steps p.tables e below (s₁.setTop (mkF m 61 #[.val (.int p1), .val (.int p2), .val (.int p3), .val (.int p4), .val (.int p5), .val (.int ((p1 &&& (3 : Int32)) + (1 : Int32))), .unset, .unset, .unset, .unset, .unset, .unset, .unset] [])) _
    refine XS.iload X0.here hx rfl (hb hby at_61) rfl ?_
    show Steps p.tables e below (s₁.setTop (mkF m 63 #[.val (.int p1), .val (.int p2), .val (.int p3), .val (.int p4), .val (.int p5), .val (.int ((p1 &&& (3 : Int32)) + (1 : Int32))), .unset, .unset, .unset, .unset, .unset, .unset, .unset] [(.int ((p1 &&& (3 : Int32)) + (1 : Int32)))])) _
    refine XS.iconst X0.here hx rfl (hb hby at_63) ?_
    show Steps p.tables e below (s₁.setTop (mkF m 64 #[.val (.int p1), .val (.int p2), .val (.int p3), .val (.int p4), .val (.int p5), .val (.int ((p1 &&& (3 : Int32)) + (1 : Int32))), .unset, .unset, .unset, .unset, .unset, .unset, .unset] [(.int (3 : Int32)), (.int ((p1 &&& (3 : Int32)) + (1 : Int32)))])) _
    refine XS.icmpYes X0.here hx rfl (pc0 := 64) (pc' := 100) rfl (hb hby at_64) rfl (feq hc64).2 (by decide) (by decide) ?_
    show Steps p.tables e below (s₁.setTop (mkF m 100 #[.val (.int p1), .val (.int p2), .val (.int p3), .val (.int p4), .val (.int p5), .val (.int ((p1 &&& (3 : Int32)) + (1 : Int32))), .unset, .unset, .unset, .unset, .unset, .unset, .unset] [])) _
    refine XS.iconst X0.here hx rfl (hb hby at_100) ?_
    show Steps p.tables e below (s₁.setTop (mkF m 101 #[.val (.int p1), .val (.int p2), .val (.int p3), .val (.int p4), .val (.int p5), .val (.int ((p1 &&& (3 : Int32)) + (1 : Int32))), .unset, .unset, .unset, .unset, .unset, .unset, .unset] [(.int (4 : Int32))])) _
    refine st6 _ ?_
    show Steps p.tables e below (T6.setTop (mkF m 103 #[.val (.int p1), .val (.int p2), .val (.int p3), .val (.int p4), .val (.int p5), .val (.int ((p1 &&& (3 : Int32)) + (1 : Int32))), .unset, .unset, .unset, .unset, .unset, .unset, .unset] [(.ref b6)])) _
    refine XS.dup X6.here hx rfl (hb hby at_103) rfl rfl ?_
    show Steps p.tables e below (T6.setTop (mkF m 104 #[.val (.int p1), .val (.int p2), .val (.int p3), .val (.int p4), .val (.int p5), .val (.int ((p1 &&& (3 : Int32)) + (1 : Int32))), .unset, .unset, .unset, .unset, .unset, .unset, .unset] [(.ref b6), (.ref b6)])) _
    refine XS.iconst X6.here hx rfl (hb hby at_104) ?_
    show Steps p.tables e below (T6.setTop (mkF m 105 #[.val (.int p1), .val (.int p2), .val (.int p3), .val (.int p4), .val (.int p5), .val (.int ((p1 &&& (3 : Int32)) + (1 : Int32))), .unset, .unset, .unset, .unset, .unset, .unset, .unset] [(.int (0 : Int32)), (.ref b6), (.ref b6)])) _
    refine XS.iloadN X6.here hx rfl (hb hby at_105) rfl ?_
    show Steps p.tables e below (T6.setTop (mkF m 106 #[.val (.int p1), .val (.int p2), .val (.int p3), .val (.int p4), .val (.int p5), .val (.int ((p1 &&& (3 : Int32)) + (1 : Int32))), .unset, .unset, .unset, .unset, .unset, .unset, .unset] [(.int p2), (.int (0 : Int32)), (.ref b6), (.ref b6)])) _
    refine own_i2d X6.here hx rfl (hb hby at_106) rfl ?_
    show Steps p.tables e below (T6.setTop (mkF m 107 #[.val (.int p1), .val (.int p2), .val (.int p3), .val (.int p4), .val (.int p5), .val (.int ((p1 &&& (3 : Int32)) + (1 : Int32))), .unset, .unset, .unset, .unset, .unset, .unset, .unset] [(.double (FP.i2d p2)), (.int (0 : Int32)), (.ref b6), (.ref b6)])) _
    refine st7 _ ?_
    show Steps p.tables e below (T7.setTop (mkF m 108 #[.val (.int p1), .val (.int p2), .val (.int p3), .val (.int p4), .val (.int p5), .val (.int ((p1 &&& (3 : Int32)) + (1 : Int32))), .unset, .unset, .unset, .unset, .unset, .unset, .unset] [(.ref b6)])) _
    refine XS.dup X7.here hx rfl (hb hby at_108) rfl rfl ?_
    show Steps p.tables e below (T7.setTop (mkF m 109 #[.val (.int p1), .val (.int p2), .val (.int p3), .val (.int p4), .val (.int p5), .val (.int ((p1 &&& (3 : Int32)) + (1 : Int32))), .unset, .unset, .unset, .unset, .unset, .unset, .unset] [(.ref b6), (.ref b6)])) _
    refine XS.iconst X7.here hx rfl (hb hby at_109) ?_
    show Steps p.tables e below (T7.setTop (mkF m 110 #[.val (.int p1), .val (.int p2), .val (.int p3), .val (.int p4), .val (.int p5), .val (.int ((p1 &&& (3 : Int32)) + (1 : Int32))), .unset, .unset, .unset, .unset, .unset, .unset, .unset] [(.int (1 : Int32)), (.ref b6), (.ref b6)])) _
    refine XS.iloadN X7.here hx rfl (hb hby at_110) rfl ?_
    show Steps p.tables e below (T7.setTop (mkF m 111 #[.val (.int p1), .val (.int p2), .val (.int p3), .val (.int p4), .val (.int p5), .val (.int ((p1 &&& (3 : Int32)) + (1 : Int32))), .unset, .unset, .unset, .unset, .unset, .unset, .unset] [(.int p3), (.int (1 : Int32)), (.ref b6), (.ref b6)])) _
    refine own_i2d X7.here hx rfl (hb hby at_111) rfl ?_
    show Steps p.tables e below (T7.setTop (mkF m 112 #[.val (.int p1), .val (.int p2), .val (.int p3), .val (.int p4), .val (.int p5), .val (.int ((p1 &&& (3 : Int32)) + (1 : Int32))), .unset, .unset, .unset, .unset, .unset, .unset, .unset] [(.double (FP.i2d p3)), (.int (1 : Int32)), (.ref b6), (.ref b6)])) _
    refine st8 _ ?_
    show Steps p.tables e below (T8.setTop (mkF m 113 #[.val (.int p1), .val (.int p2), .val (.int p3), .val (.int p4), .val (.int p5), .val (.int ((p1 &&& (3 : Int32)) + (1 : Int32))), .unset, .unset, .unset, .unset, .unset, .unset, .unset] [(.ref b6)])) _
    refine XS.dup X8.here hx rfl (hb hby at_113) rfl rfl ?_
    show Steps p.tables e below (T8.setTop (mkF m 114 #[.val (.int p1), .val (.int p2), .val (.int p3), .val (.int p4), .val (.int p5), .val (.int ((p1 &&& (3 : Int32)) + (1 : Int32))), .unset, .unset, .unset, .unset, .unset, .unset, .unset] [(.ref b6), (.ref b6)])) _
    refine XS.iconst X8.here hx rfl (hb hby at_114) ?_
    show Steps p.tables e below (T8.setTop (mkF m 115 #[.val (.int p1), .val (.int p2), .val (.int p3), .val (.int p4), .val (.int p5), .val (.int ((p1 &&& (3 : Int32)) + (1 : Int32))), .unset, .unset, .unset, .unset, .unset, .unset, .unset] [(.int (2 : Int32)), (.ref b6), (.ref b6)])) _
    refine XS.iloadN X8.here hx rfl (hb hby at_115) rfl ?_
    show Steps p.tables e below (T8.setTop (mkF m 116 #[.val (.int p1), .val (.int p2), .val (.int p3), .val (.int p4), .val (.int p5), .val (.int ((p1 &&& (3 : Int32)) + (1 : Int32))), .unset, .unset, .unset, .unset, .unset, .unset, .unset] [(.int p4), (.int (2 : Int32)), (.ref b6), (.ref b6)])) _
    refine own_i2d X8.here hx rfl (hb hby at_116) rfl ?_
    show Steps p.tables e below (T8.setTop (mkF m 117 #[.val (.int p1), .val (.int p2), .val (.int p3), .val (.int p4), .val (.int p5), .val (.int ((p1 &&& (3 : Int32)) + (1 : Int32))), .unset, .unset, .unset, .unset, .unset, .unset, .unset] [(.double (FP.i2d p4)), (.int (2 : Int32)), (.ref b6), (.ref b6)])) _
    refine st9 _ ?_
    show Steps p.tables e below (T9.setTop (mkF m 118 #[.val (.int p1), .val (.int p2), .val (.int p3), .val (.int p4), .val (.int p5), .val (.int ((p1 &&& (3 : Int32)) + (1 : Int32))), .unset, .unset, .unset, .unset, .unset, .unset, .unset] [(.ref b6)])) _
    refine XS.dup X9.here hx rfl (hb hby at_118) rfl rfl ?_
    show Steps p.tables e below (T9.setTop (mkF m 119 #[.val (.int p1), .val (.int p2), .val (.int p3), .val (.int p4), .val (.int p5), .val (.int ((p1 &&& (3 : Int32)) + (1 : Int32))), .unset, .unset, .unset, .unset, .unset, .unset, .unset] [(.ref b6), (.ref b6)])) _
    refine XS.iconst X9.here hx rfl (hb hby at_119) ?_
    show Steps p.tables e below (T9.setTop (mkF m 120 #[.val (.int p1), .val (.int p2), .val (.int p3), .val (.int p4), .val (.int p5), .val (.int ((p1 &&& (3 : Int32)) + (1 : Int32))), .unset, .unset, .unset, .unset, .unset, .unset, .unset] [(.int (3 : Int32)), (.ref b6), (.ref b6)])) _
    refine XS.iload X9.here hx rfl (hb hby at_120) rfl ?_
    show Steps p.tables e below (T9.setTop (mkF m 122 #[.val (.int p1), .val (.int p2), .val (.int p3), .val (.int p4), .val (.int p5), .val (.int ((p1 &&& (3 : Int32)) + (1 : Int32))), .unset, .unset, .unset, .unset, .unset, .unset, .unset] [(.int p5), (.int (3 : Int32)), (.ref b6), (.ref b6)])) _
    refine own_i2d X9.here hx rfl (hb hby at_122) rfl ?_
    show Steps p.tables e below (T9.setTop (mkF m 123 #[.val (.int p1), .val (.int p2), .val (.int p3), .val (.int p4), .val (.int p5), .val (.int ((p1 &&& (3 : Int32)) + (1 : Int32))), .unset, .unset, .unset, .unset, .unset, .unset, .unset] [(.double (FP.i2d p5)), (.int (3 : Int32)), (.ref b6), (.ref b6)])) _
    refine st10 _ ?_
    show Steps p.tables e below (T10.setTop (mkF m 124 #[.val (.int p1), .val (.int p2), .val (.int p3), .val (.int p4), .val (.int p5), .val (.int ((p1 &&& (3 : Int32)) + (1 : Int32))), .unset, .unset, .unset, .unset, .unset, .unset, .unset] [(.ref b6)])) _
    refine XS.astore X10.here hx rfl (hb hby at_124) rfl rfl (l' := #[.val (.int p1), .val (.int p2), .val (.int p3), .val (.int p4), .val (.int p5), .val (.int ((p1 &&& (3 : Int32)) + (1 : Int32))), .val (.ref b6), .unset, .unset, .unset, .unset, .unset, .unset]) rfl ?_
    show Steps p.tables e below (T10.setTop (mkF m 126 #[.val (.int p1), .val (.int p2), .val (.int p3), .val (.int p4), .val (.int p5), .val (.int ((p1 &&& (3 : Int32)) + (1 : Int32))), .val (.ref b6), .unset, .unset, .unset, .unset, .unset, .unset] [])) _
    refine XS.iloadN X10.here hx rfl (hb hby at_126) rfl ?_
    show Steps p.tables e below (T10.setTop (mkF m 127 #[.val (.int p1), .val (.int p2), .val (.int p3), .val (.int p4), .val (.int p5), .val (.int ((p1 &&& (3 : Int32)) + (1 : Int32))), .val (.ref b6), .unset, .unset, .unset, .unset, .unset, .unset] [(.int p2)])) _
    refine XS.i2l X10.here hx rfl (hb hby at_127) rfl ?_
    show Steps p.tables e below (T10.setTop (mkF m 128 #[.val (.int p1), .val (.int p2), .val (.int p3), .val (.int p4), .val (.int p5), .val (.int ((p1 &&& (3 : Int32)) + (1 : Int32))), .val (.ref b6), .unset, .unset, .unset, .unset, .unset, .unset] [(.long (p2.toInt64))])) _
    refine XS.iloadN X10.here hx rfl (hb hby at_128) rfl ?_
    show Steps p.tables e below (T10.setTop (mkF m 129 #[.val (.int p1), .val (.int p2), .val (.int p3), .val (.int p4), .val (.int p5), .val (.int ((p1 &&& (3 : Int32)) + (1 : Int32))), .val (.ref b6), .unset, .unset, .unset, .unset, .unset, .unset] [(.int p3), (.long (p2.toInt64))])) _
    refine XS.i2l X10.here hx rfl (hb hby at_129) rfl ?_
    show Steps p.tables e below (T10.setTop (mkF m 130 #[.val (.int p1), .val (.int p2), .val (.int p3), .val (.int p4), .val (.int p5), .val (.int ((p1 &&& (3 : Int32)) + (1 : Int32))), .val (.ref b6), .unset, .unset, .unset, .unset, .unset, .unset] [(.long (p3.toInt64)), (.long (p2.toInt64))])) _
    refine XS.ladd X10.here hx rfl (hb hby at_130) rfl ?_
    show Steps p.tables e below (T10.setTop (mkF m 131 #[.val (.int p1), .val (.int p2), .val (.int p3), .val (.int p4), .val (.int p5), .val (.int ((p1 &&& (3 : Int32)) + (1 : Int32))), .val (.ref b6), .unset, .unset, .unset, .unset, .unset, .unset] [(.long ((p2.toInt64) + (p3.toInt64)))])) _
    refine XS.iloadN X10.here hx rfl (hb hby at_131) rfl ?_
    show Steps p.tables e below (T10.setTop (mkF m 132 #[.val (.int p1), .val (.int p2), .val (.int p3), .val (.int p4), .val (.int p5), .val (.int ((p1 &&& (3 : Int32)) + (1 : Int32))), .val (.ref b6), .unset, .unset, .unset, .unset, .unset, .unset] [(.int p4), (.long ((p2.toInt64) + (p3.toInt64)))])) _
    refine XS.i2l X10.here hx rfl (hb hby at_132) rfl ?_
    show Steps p.tables e below (T10.setTop (mkF m 133 #[.val (.int p1), .val (.int p2), .val (.int p3), .val (.int p4), .val (.int p5), .val (.int ((p1 &&& (3 : Int32)) + (1 : Int32))), .val (.ref b6), .unset, .unset, .unset, .unset, .unset, .unset] [(.long (p4.toInt64)), (.long ((p2.toInt64) + (p3.toInt64)))])) _
    refine XS.ladd X10.here hx rfl (hb hby at_133) rfl ?_
    show Steps p.tables e below (T10.setTop (mkF m 134 #[.val (.int p1), .val (.int p2), .val (.int p3), .val (.int p4), .val (.int p5), .val (.int ((p1 &&& (3 : Int32)) + (1 : Int32))), .val (.ref b6), .unset, .unset, .unset, .unset, .unset, .unset] [(.long (((p2.toInt64) + (p3.toInt64)) + (p4.toInt64)))])) _
    refine XS.iload X10.here hx rfl (hb hby at_134) rfl ?_
    show Steps p.tables e below (T10.setTop (mkF m 136 #[.val (.int p1), .val (.int p2), .val (.int p3), .val (.int p4), .val (.int p5), .val (.int ((p1 &&& (3 : Int32)) + (1 : Int32))), .val (.ref b6), .unset, .unset, .unset, .unset, .unset, .unset] [(.int p5), (.long (((p2.toInt64) + (p3.toInt64)) + (p4.toInt64)))])) _
    refine XS.i2l X10.here hx rfl (hb hby at_136) rfl ?_
    show Steps p.tables e below (T10.setTop (mkF m 137 #[.val (.int p1), .val (.int p2), .val (.int p3), .val (.int p4), .val (.int p5), .val (.int ((p1 &&& (3 : Int32)) + (1 : Int32))), .val (.ref b6), .unset, .unset, .unset, .unset, .unset, .unset] [(.long (p5.toInt64)), (.long (((p2.toInt64) + (p3.toInt64)) + (p4.toInt64)))])) _
    refine XS.ladd X10.here hx rfl (hb hby at_137) rfl ?_
    show Steps p.tables e below (T10.setTop (mkF m 138 #[.val (.int p1), .val (.int p2), .val (.int p3), .val (.int p4), .val (.int p5), .val (.int ((p1 &&& (3 : Int32)) + (1 : Int32))), .val (.ref b6), .unset, .unset, .unset, .unset, .unset, .unset] [(.long ((((p2.toInt64) + (p3.toInt64)) + (p4.toInt64)) + (p5.toInt64)))])) _
    refine XS.lstore X10.here hx rfl (hb hby at_138) rfl (l' := #[.val (.int p1), .val (.int p2), .val (.int p3), .val (.int p4), .val (.int p5), .val (.int ((p1 &&& (3 : Int32)) + (1 : Int32))), .val (.ref b6), .val (.long ((((p2.toInt64) + (p3.toInt64)) + (p4.toInt64)) + (p5.toInt64))), .second, .unset, .unset, .unset, .unset]) rfl ?_
    show Steps p.tables e below (T10.setTop (mkF m 140 #[.val (.int p1), .val (.int p2), .val (.int p3), .val (.int p4), .val (.int p5), .val (.int ((p1 &&& (3 : Int32)) + (1 : Int32))), .val (.ref b6), .val (.long ((((p2.toInt64) + (p3.toInt64)) + (p4.toInt64)) + (p5.toInt64))), .second, .unset, .unset, .unset, .unset] [])) _
    refine st11 _ ?_
    show Steps p.tables e below (T11.setTop (mkF m 143 #[.val (.int p1), .val (.int p2), .val (.int p3), .val (.int p4), .val (.int p5), .val (.int ((p1 &&& (3 : Int32)) + (1 : Int32))), .val (.ref b6), .val (.long ((((p2.toInt64) + (p3.toInt64)) + (p4.toInt64)) + (p5.toInt64))), .second, .unset, .unset, .unset, .unset] [(.ref b11)])) _
    refine XS.dup X11.here hx rfl (hb hby at_143) rfl rfl ?_
    show Steps p.tables e below (T11.setTop (mkF m 144 #[.val (.int p1), .val (.int p2), .val (.int p3), .val (.int p4), .val (.int p5), .val (.int ((p1 &&& (3 : Int32)) + (1 : Int32))), .val (.ref b6), .val (.long ((((p2.toInt64) + (p3.toInt64)) + (p4.toInt64)) + (p5.toInt64))), .second, .unset, .unset, .unset, .unset] [(.ref b11), (.ref b11)])) _
    refine st12.trans ?_
    show Steps p.tables e below (T12.setTop (mkF m 147 #[.val (.int p1), .val (.int p2), .val (.int p3), .val (.int p4), .val (.int p5), .val (.int ((p1 &&& (3 : Int32)) + (1 : Int32))), .val (.ref b6), .val (.long ((((p2.toInt64) + (p3.toInt64)) + (p4.toInt64)) + (p5.toInt64))), .second, .unset, .unset, .unset, .unset] [(.ref b11)])) _
    refine XS.astore X12.here hx rfl (hb hby at_147) rfl rfl (l' := #[.val (.int p1), .val (.int p2), .val (.int p3), .val (.int p4), .val (.int p5), .val (.int ((p1 &&& (3 : Int32)) + (1 : Int32))), .val (.ref b6), .val (.long ((((p2.toInt64) + (p3.toInt64)) + (p4.toInt64)) + (p5.toInt64))), .second, .val (.ref b11), .unset, .unset, .unset]) rfl ?_
    show Steps p.tables e below (T12.setTop (mkF m 149 #[.val (.int p1), .val (.int p2), .val (.int p3), .val (.int p4), .val (.int p5), .val (.int ((p1 &&& (3 : Int32)) + (1 : Int32))), .val (.ref b6), .val (.long ((((p2.toInt64) + (p3.toInt64)) + (p4.toInt64)) + (p5.toInt64))), .second, .val (.ref b11), .unset, .unset, .unset] [])) _
    refine st13 _ ?_
    show Steps p.tables e below (T13.setTop (mkF m 152 #[.val (.int p1), .val (.int p2), .val (.int p3), .val (.int p4), .val (.int p5), .val (.int ((p1 &&& (3 : Int32)) + (1 : Int32))), .val (.ref b6), .val (.long ((((p2.toInt64) + (p3.toInt64)) + (p4.toInt64)) + (p5.toInt64))), .second, .val (.ref b11), .unset, .unset, .unset] [(.ref b13)])) _
    refine XS.dup X13.here hx rfl (hb hby at_152) rfl rfl ?_
    show Steps p.tables e below (T13.setTop (mkF m 153 #[.val (.int p1), .val (.int p2), .val (.int p3), .val (.int p4), .val (.int p5), .val (.int ((p1 &&& (3 : Int32)) + (1 : Int32))), .val (.ref b6), .val (.long ((((p2.toInt64) + (p3.toInt64)) + (p4.toInt64)) + (p5.toInt64))), .second, .val (.ref b11), .unset, .unset, .unset] [(.ref b13), (.ref b13)])) _
    refine XS.aload X13.here hx rfl (hb hby at_153) rfl rfl ?_
    show Steps p.tables e below (T13.setTop (mkF m 155 #[.val (.int p1), .val (.int p2), .val (.int p3), .val (.int p4), .val (.int p5), .val (.int ((p1 &&& (3 : Int32)) + (1 : Int32))), .val (.ref b6), .val (.long ((((p2.toInt64) + (p3.toInt64)) + (p4.toInt64)) + (p5.toInt64))), .second, .val (.ref b11), .unset, .unset, .unset] [(.ref b6), (.ref b13), (.ref b13)])) _
    refine own_dconst0 X13.here hx rfl (hb hby at_155) ?_
    show Steps p.tables e below (T13.setTop (mkF m 156 #[.val (.int p1), .val (.int p2), .val (.int p3), .val (.int p4), .val (.int p5), .val (.int ((p1 &&& (3 : Int32)) + (1 : Int32))), .val (.ref b6), .val (.long ((((p2.toInt64) + (p3.toInt64)) + (p4.toInt64)) + (p5.toInt64))), .second, .val (.ref b11), .unset, .unset, .unset] [(.double FP.dconst0), (.ref b6), (.ref b13), (.ref b13)])) _
    refine XS.aload X13.here hx rfl (hb hby at_156) rfl rfl ?_
    show Steps p.tables e below (T13.setTop (mkF m 158 #[.val (.int p1), .val (.int p2), .val (.int p3), .val (.int p4), .val (.int p5), .val (.int ((p1 &&& (3 : Int32)) + (1 : Int32))), .val (.ref b6), .val (.long ((((p2.toInt64) + (p3.toInt64)) + (p4.toInt64)) + (p5.toInt64))), .second, .val (.ref b11), .unset, .unset, .unset] [(.ref b11), (.double FP.dconst0), (.ref b6), (.ref b13), (.ref b13)])) _
    refine st14.trans ?_
    show Steps p.tables e below (T14.setTop (mkF m 161 #[.val (.int p1), .val (.int p2), .val (.int p3), .val (.int p4), .val (.int p5), .val (.int ((p1 &&& (3 : Int32)) + (1 : Int32))), .val (.ref b6), .val (.long ((((p2.toInt64) + (p3.toInt64)) + (p4.toInt64)) + (p5.toInt64))), .second, .val (.ref b11), .unset, .unset, .unset] [(.ref b13)])) _
    refine XS.astore X14.here hx rfl (hb hby at_161) rfl rfl (l' := #[.val (.int p1), .val (.int p2), .val (.int p3), .val (.int p4), .val (.int p5), .val (.int ((p1 &&& (3 : Int32)) + (1 : Int32))), .val (.ref b6), .val (.long ((((p2.toInt64) + (p3.toInt64)) + (p4.toInt64)) + (p5.toInt64))), .second, .val (.ref b11), .val (.ref b13), .unset, .unset]) rfl ?_
    show Steps p.tables e below (T14.setTop (mkF m 163 #[.val (.int p1), .val (.int p2), .val (.int p3), .val (.int p4), .val (.int p5), .val (.int ((p1 &&& (3 : Int32)) + (1 : Int32))), .val (.ref b6), .val (.long ((((p2.toInt64) + (p3.toInt64)) + (p4.toInt64)) + (p5.toInt64))), .second, .val (.ref b11), .val (.ref b13), .unset, .unset] [])) _
    refine XS.lload X14.here hx rfl (hb hby at_163) rfl ?_
    show Steps p.tables e below (T14.setTop (mkF m 165 #[.val (.int p1), .val (.int p2), .val (.int p3), .val (.int p4), .val (.int p5), .val (.int ((p1 &&& (3 : Int32)) + (1 : Int32))), .val (.ref b6), .val (.long ((((p2.toInt64) + (p3.toInt64)) + (p4.toInt64)) + (p5.toInt64))), .second, .val (.ref b11), .val (.ref b13), .unset, .unset] [(.long ((((p2.toInt64) + (p3.toInt64)) + (p4.toInt64)) + (p5.toInt64)))])) _
    refine own_l2d X14.here hx rfl (hb hby at_165) rfl ?_
    show Steps p.tables e below (T14.setTop (mkF m 166 #[.val (.int p1), .val (.int p2), .val (.int p3), .val (.int p4), .val (.int p5), .val (.int ((p1 &&& (3 : Int32)) + (1 : Int32))), .val (.ref b6), .val (.long ((((p2.toInt64) + (p3.toInt64)) + (p4.toInt64)) + (p5.toInt64))), .second, .val (.ref b11), .val (.ref b13), .unset, .unset] [(.double (FP.l2d ((((p2.toInt64) + (p3.toInt64)) + (p4.toInt64)) + (p5.toInt64))))])) _
    refine XS.iload X14.here hx rfl (hb hby at_166) rfl ?_
    show Steps p.tables e below (T14.setTop (mkF m 168 #[.val (.int p1), .val (.int p2), .val (.int p3), .val (.int p4), .val (.int p5), .val (.int ((p1 &&& (3 : Int32)) + (1 : Int32))), .val (.ref b6), .val (.long ((((p2.toInt64) + (p3.toInt64)) + (p4.toInt64)) + (p5.toInt64))), .second, .val (.ref b11), .val (.ref b13), .unset, .unset] [(.int ((p1 &&& (3 : Int32)) + (1 : Int32))), (.double (FP.l2d ((((p2.toInt64) + (p3.toInt64)) + (p4.toInt64)) + (p5.toInt64))))])) _
    refine own_i2d X14.here hx rfl (hb hby at_168) rfl ?_
    show Steps p.tables e below (T14.setTop (mkF m 169 #[.val (.int p1), .val (.int p2), .val (.int p3), .val (.int p4), .val (.int p5), .val (.int ((p1 &&& (3 : Int32)) + (1 : Int32))), .val (.ref b6), .val (.long ((((p2.toInt64) + (p3.toInt64)) + (p4.toInt64)) + (p5.toInt64))), .second, .val (.ref b11), .val (.ref b13), .unset, .unset] [(.double (FP.i2d ((p1 &&& (3 : Int32)) + (1 : Int32)))), (.double (FP.l2d ((((p2.toInt64) + (p3.toInt64)) + (p4.toInt64)) + (p5.toInt64))))])) _
    refine own_ddiv X14.here hx rfl (hb hby at_169) rfl hE ?_
    show Steps p.tables e below (T14.setTop (mkF m 170 #[.val (.int p1), .val (.int p2), .val (.int p3), .val (.int p4), .val (.int p5), .val (.int ((p1 &&& (3 : Int32)) + (1 : Int32))), .val (.ref b6), .val (.long ((((p2.toInt64) + (p3.toInt64)) + (p4.toInt64)) + (p5.toInt64))), .second, .val (.ref b11), .val (.ref b13), .unset, .unset] [(.double (FP.ddiv (FP.l2d ((((p2.toInt64) + (p3.toInt64)) + (p4.toInt64)) + (p5.toInt64))) (FP.i2d ((p1 &&& (3 : Int32)) + (1 : Int32)))))])) _
    refine own_dstore X14.here hx rfl (hb hby at_170) rfl (l' := #[.val (.int p1), .val (.int p2), .val (.int p3), .val (.int p4), .val (.int p5), .val (.int ((p1 &&& (3 : Int32)) + (1 : Int32))), .val (.ref b6), .val (.long ((((p2.toInt64) + (p3.toInt64)) + (p4.toInt64)) + (p5.toInt64))), .second, .val (.ref b11), .val (.ref b13), .val (.double (FP.ddiv (FP.l2d ((((p2.toInt64) + (p3.toInt64)) + (p4.toInt64)) + (p5.toInt64))) (FP.i2d ((p1 &&& (3 : Int32)) + (1 : Int32))))), .second]) rfl ?_
    show Steps p.tables e below (T14.setTop (mkF m 172 #[.val (.int p1), .val (.int p2), .val (.int p3), .val (.int p4), .val (.int p5), .val (.int ((p1 &&& (3 : Int32)) + (1 : Int32))), .val (.ref b6), .val (.long ((((p2.toInt64) + (p3.toInt64)) + (p4.toInt64)) + (p5.toInt64))), .second, .val (.ref b11), .val (.ref b13), .val (.double (FP.ddiv (FP.l2d ((((p2.toInt64) + (p3.toInt64)) + (p4.toInt64)) + (p5.toInt64))) (FP.i2d ((p1 &&& (3 : Int32)) + (1 : Int32))))), .second] [])) _
    refine XS.aload X14.here hx rfl (hb hby at_172) rfl rfl ?_
    show Steps p.tables e below (T14.setTop (mkF m 174 #[.val (.int p1), .val (.int p2), .val (.int p3), .val (.int p4), .val (.int p5), .val (.int ((p1 &&& (3 : Int32)) + (1 : Int32))), .val (.ref b6), .val (.long ((((p2.toInt64) + (p3.toInt64)) + (p4.toInt64)) + (p5.toInt64))), .second, .val (.ref b11), .val (.ref b13), .val (.double (FP.ddiv (FP.l2d ((((p2.toInt64) + (p3.toInt64)) + (p4.toInt64)) + (p5.toInt64))) (FP.i2d ((p1 &&& (3 : Int32)) + (1 : Int32))))), .second] [(.ref b13)])) _
    refine st15.trans ?_
    show Steps p.tables e below (T15.setTop (mkF m 177 #[.val (.int p1), .val (.int p2), .val (.int p3), .val (.int p4), .val (.int p5), .val (.int ((p1 &&& (3 : Int32)) + (1 : Int32))), .val (.ref b6), .val (.long ((((p2.toInt64) + (p3.toInt64)) + (p4.toInt64)) + (p5.toInt64))), .second, .val (.ref b11), .val (.ref b13), .val (.double (FP.ddiv (FP.l2d ((((p2.toInt64) + (p3.toInt64)) + (p4.toInt64)) + (p5.toInt64))) (FP.i2d ((p1 &&& (3 : Int32)) + (1 : Int32))))), .second] [(.double (FP.ddiv (own_sum (own_ds [p2, p3, p4, p5]) 4) (FP.i2d (Int32.ofNat 4))))])) _
    refine own_dload X15.here hx rfl (hb hby at_177) rfl ?_
    show Steps p.tables e below (T15.setTop (mkF m 179 #[.val (.int p1), .val (.int p2), .val (.int p3), .val (.int p4), .val (.int p5), .val (.int ((p1 &&& (3 : Int32)) + (1 : Int32))), .val (.ref b6), .val (.long ((((p2.toInt64) + (p3.toInt64)) + (p4.toInt64)) + (p5.toInt64))), .second, .val (.ref b11), .val (.ref b13), .val (.double (FP.ddiv (FP.l2d ((((p2.toInt64) + (p3.toInt64)) + (p4.toInt64)) + (p5.toInt64))) (FP.i2d ((p1 &&& (3 : Int32)) + (1 : Int32))))), .second] [(.double (FP.ddiv (FP.l2d ((((p2.toInt64) + (p3.toInt64)) + (p4.toInt64)) + (p5.toInt64))) (FP.i2d ((p1 &&& (3 : Int32)) + (1 : Int32))))), (.double (FP.ddiv (own_sum (own_ds [p2, p3, p4, p5]) 4) (FP.i2d (Int32.ofNat 4))))])) _
    refine own_dcmp X15.here hx rfl (hb hby at_179) rfl (k := 0) hC ?_
    show Steps p.tables e below (T15.setTop (mkF m 180 #[.val (.int p1), .val (.int p2), .val (.int p3), .val (.int p4), .val (.int p5), .val (.int ((p1 &&& (3 : Int32)) + (1 : Int32))), .val (.ref b6), .val (.long ((((p2.toInt64) + (p3.toInt64)) + (p4.toInt64)) + (p5.toInt64))), .second, .val (.ref b11), .val (.ref b13), .val (.double (FP.ddiv (FP.l2d ((((p2.toInt64) + (p3.toInt64)) + (p4.toInt64)) + (p5.toInt64))) (FP.i2d ((p1 &&& (3 : Int32)) + (1 : Int32))))), .second] [(.int (0 : Int32))])) _
    refine XS.ifNo X15.here hx rfl (hb hby at_180) rfl ((if0 _ _).trans (teq (rfl : (0 : Int32) = (0 : Int32))).2) ?_
    show Steps p.tables e below (T15.setTop (mkF m 183 #[.val (.int p1), .val (.int p2), .val (.int p3), .val (.int p4), .val (.int p5), .val (.int ((p1 &&& (3 : Int32)) + (1 : Int32))), .val (.ref b6), .val (.long ((((p2.toInt64) + (p3.toInt64)) + (p4.toInt64)) + (p5.toInt64))), .second, .val (.ref b11), .val (.ref b13), .val (.double (FP.ddiv (FP.l2d ((((p2.toInt64) + (p3.toInt64)) + (p4.toInt64)) + (p5.toInt64))) (FP.i2d ((p1 &&& (3 : Int32)) + (1 : Int32))))), .second] [])) _
    refine XS.iconst X15.here hx rfl (hb hby at_183) ?_
    show Steps p.tables e below (T15.setTop (mkF m 184 #[.val (.int p1), .val (.int p2), .val (.int p3), .val (.int p4), .val (.int p5), .val (.int ((p1 &&& (3 : Int32)) + (1 : Int32))), .val (.ref b6), .val (.long ((((p2.toInt64) + (p3.toInt64)) + (p4.toInt64)) + (p5.toInt64))), .second, .val (.ref b11), .val (.ref b13), .val (.double (FP.ddiv (FP.l2d ((((p2.toInt64) + (p3.toInt64)) + (p4.toInt64)) + (p5.toInt64))) (FP.i2d ((p1 &&& (3 : Int32)) + (1 : Int32))))), .second] [(.int (1 : Int32))])) _
    refine XS.goto X15.here hx rfl (pc0 := 184) (pc' := 188) rfl (hb hby at_184) (by decide) (by decide) ?_
    show Steps p.tables e below (T15.setTop (mkF m 188 #[.val (.int p1), .val (.int p2), .val (.int p3), .val (.int p4), .val (.int p5), .val (.int ((p1 &&& (3 : Int32)) + (1 : Int32))), .val (.ref b6), .val (.long ((((p2.toInt64) + (p3.toInt64)) + (p4.toInt64)) + (p5.toInt64))), .second, .val (.ref b11), .val (.ref b13), .val (.double (FP.ddiv (FP.l2d ((((p2.toInt64) + (p3.toInt64)) + (p4.toInt64)) + (p5.toInt64))) (FP.i2d ((p1 &&& (3 : Int32)) + (1 : Int32))))), .second] [(.int (1 : Int32))])) _
    exact retN X15 hx (t := .boolean) Bd.returns (by simp) (hb hby at_188) hr
  · show Q0 h0 n0 _ T15.heap _
    exact ⟨rfl, N15⟩
theorem own_four (x : Int32) (h1 : ¬ ((x &&& (3 : Int32)) + (1 : Int32)) = 1) (h2 : ¬ ((x &&& (3 : Int32)) + (1 : Int32)) = 2) (h3 : ¬ ((x &&& (3 : Int32)) + (1 : Int32)) = 3) : ((x &&& (3 : Int32)) + (1 : Int32)) = Int32.ofNat 4 := by
  have h := c_and x 3 (by decide)
  have z : (3 : Int32).toInt = 3 := by decide
  have o : (1 : Int32).toInt = 1 := by decide
  have q := c_iadd (x &&& (3 : Int32)) 1
  have r := rng32 ((x &&& (3 : Int32)) + 1)
  have t : ∀ k : Int32, ¬ ((x &&& (3 : Int32)) + (1 : Int32)) = k → ((x &&& (3 : Int32)) + (1 : Int32)).toInt ≠ k.toInt := fun k hk e => hk (Int32.toInt_inj.mp e)
  have t1 := t 1 h1
  have t2 := t 2 h2
  have t3 := t 3 h3
  have z1 : (2 : Int32).toInt = 2 := by decide
  have z4 : (Int32.ofNat 4).toInt = 4 := by decide
  rw [← Int32.toInt_inj]
  omega
theorem own_eqv {args : Array Value} {s : State} {t : Term} {k : Int32} (h : (Cond.eq t (.int k)).value args s none s [] = some true) : t.eval args s none [] s = some (.int k) := by
  obtain ⟨x, y, hx, hy, k1, k2⟩ := cmp_v (Or.inl h)
  obtain rfl : y = .int k := (Option.some.inj ((Term.int_eval k).symm.trans hy)).symm
  obtain ⟨z, rfl⟩ := k2
  rw [hx]; congr 2
  exact gotT (Cond.eq_ints hx hy) h
theorem own_eqr {args : Array Value} {s : State} {t u : Term} {b : Addr} (h : (Cond.eq t u).value args s none s [] = some true) (hu : u.eval args s none [] s = some (.ref b)) : t.eval args s none [] s = some (.ref b) := by
  obtain ⟨x, y, hx, hy, k1, k2⟩ := cmp_v (Or.inl h)
  obtain rfl : y = .ref b := (Option.some.inj (hu.symm.trans hy)).symm
  rw [hx]; congr 1
  exact gotT (eq_R hx hy k2.2 rfl) h
set_option maxRecDepth 65536 in
set_option maxHeartbeats 40000000 in
theorem comes_1 {Post : Tables → Env → Array Value → State → Outcome → State → Prop} (hpost : ∀ tb e args s v u, (limb_1_1.after args s (.returned v) u = true ∧ limb_1_2.after args s (.returned v) u = true ∧ True) → FrameEnd s (.returned v) u (Jvm.fieldLocs frame_1_writes args s ++ Jvm.arrayLocs frame_1_arrays args s ++ Jvm.staticLocs frame_1_statics s) 16 128 → Post tb e args s (.returned v) u) :
    ArmFor flags0 classFile x code maxLocals ret World_1 tables_1 room_1 Calls_1 rest_1 Pre_1 Post := by
  intro l hfl _ _ p e ha hc hk s m args below hf hA hF happ hP
  obtain ⟨hcalls, hrest, hpre⟩ := hP
  obtain ⟨-, -, -, hnamed, -, -, -, hat⟩ := (Spec.applies_iff hf).mp happ
  obtain ⟨hg, hn⟩ := and_e (Cond.before_iff.mp (show (Jvm.Cond.and given_1 narrow_1).before args s = true from hpre))
  obtain ⟨g16, g17⟩ := and_e hg
  obtain ⟨g18, g19⟩ := and_e g17
  obtain ⟨g20, g21⟩ := and_e g19
  obtain ⟨g22, g23⟩ := and_e g21
  obtain ⟨g24, g25⟩ := and_e g23
  obtain ⟨w0, w1, w2, w3, w4, rfl⟩ : ∃ w0 w1 w2 w3 w4 : Value, args = #[w0, w1, w2, w3, w4] := by
    have hs : args.size = 5 := by simpa [Cond.value, given_1] using g16
    obtain ⟨L⟩ := args
    match L, hs with
    | [w0, w1, w2, w3, w4], _ => exact ⟨w0, w1, w2, w3, w4, rfl⟩
  have hw := fun d (hd : d ∈ tables_1) => atoms_spec (ws := Jvm.Cond.code x code maxLocals ret :: tables_1) hat d (List.mem_cons_of_mem _ hd)
  have hfit : Fit s := fun {y c} hc i hi => by
    obtain ⟨ha, rfl⟩ := Array.getElem?_eq_some_iff.mp hc
    have q := List.all_eq_true.mp ((Array.all_eq_true_iff_forall_mem.mp hF) _ (Array.getElem_mem ha)) i (List.mem_range.mpr hi)
    simpa [Array.getElem?_eq_getElem hi] using q
  obtain ⟨hsets, hown0⟩ := atoms_of _ (rest_1_c_eq ▸ (show rest_1_c.before _ s = true from hrest))
  have hr0 := Cond.before_iff.mp hown0
  obtain ⟨i0, ei0⟩ := is_v g18
  obtain rfl : w0 = (.int i0) := Option.some.inj ei0
  obtain ⟨i1, ei1⟩ := is_v g20
  obtain rfl : w1 = (.int i1) := Option.some.inj ei1
  obtain ⟨i2, ei2⟩ := is_v g22
  obtain rfl : w2 = (.int i2) := Option.some.inj ei2
  obtain ⟨i3, ei3⟩ := is_v g24
  obtain rfl : w3 = (.int i3) := Option.some.inj ei3
  obtain ⟨i4, ei4⟩ := is_v g25
  obtain rfl : w4 = (.int i4) := Option.some.inj ei4
  obtain ⟨w3, ev⟩ := arr_v (Cond.before_iff.mp (hsets _ (List.mem_of_getElem? (i := 6) rfl)))
  have S_D : Sta s s.heap "java/util/ArrayList" "DEFAULTCAPACITY_EMPTY_ELEMENTDATA" "[Ljava/lang/Object;" (.ref w3) := Sta.start ev (Or.inr ⟨(hw _ (List.mem_of_getElem? (i := 3) rfl)), hsets _ (List.mem_of_getElem? (i := 2) rfl)⟩)
  by_cases c1 : ((i0 &&& (3 : Int32)) + (1 : Int32)) = (1 : Int32)
  · obtain ⟨n, o, h1, h2, h3, _, L, rfl, ⟨rfl, N⟩, hq⟩ := rm0_1 l s _ hw tables_1 i0 i1 i2 i3 i4 w3 s.heap s.heap.size (Nat.le_refl _) S_D (Old.start s) c1 c1 p e ha hc hk s m _ below hf ((Spec.applies_iff_loose hf).mp happ).1 ⟨rfl, State.Warmed39.refl s, rfl⟩ trivial
    refine ⟨n, _, h1, h2, h3, hpost _ _ _ _ _ _ ⟨Cond.after_iff.mpr rfl, Cond.after_iff.mpr (eq_i res_at (Term.int_eval (1)) rfl), trivial⟩ ⟨hq.1, hq.2.1, (hq.2.2.sift fun y hy => Or.inr (N y hy)).mono (by decide) (by decide)⟩⟩
  · by_cases c2 : ((i0 &&& (3 : Int32)) + (1 : Int32)) = (2 : Int32)
    · obtain ⟨n, o, h1, h2, h3, _, L, rfl, ⟨rfl, N⟩, hq⟩ := rm0_2 l s _ hw tables_1 i0 i1 i2 i3 i4 w3 s.heap s.heap.size (Nat.le_refl _) S_D (Old.start s) c2 c1 c2 p e ha hc hk s m _ below hf ((Spec.applies_iff_loose hf).mp happ).1 ⟨rfl, State.Warmed39.refl s, rfl⟩ trivial
      refine ⟨n, _, h1, h2, h3, hpost _ _ _ _ _ _ ⟨Cond.after_iff.mpr rfl, Cond.after_iff.mpr (eq_i res_at (Term.int_eval (1)) rfl), trivial⟩ ⟨hq.1, hq.2.1, (hq.2.2.sift fun y hy => Or.inr (N y hy)).mono (by decide) (by decide)⟩⟩
    · by_cases c3 : ((i0 &&& (3 : Int32)) + (1 : Int32)) = (3 : Int32)
      · obtain ⟨n, o, h1, h2, h3, _, L, rfl, ⟨rfl, N⟩, hq⟩ := rm0_3 l s _ hw tables_1 i0 i1 i2 i3 i4 w3 s.heap s.heap.size (Nat.le_refl _) S_D (Old.start s) c3 c1 c2 c3 p e ha hc hk s m _ below hf ((Spec.applies_iff_loose hf).mp happ).1 ⟨rfl, State.Warmed39.refl s, rfl⟩ trivial
        refine ⟨n, _, h1, h2, h3, hpost _ _ _ _ _ _ ⟨Cond.after_iff.mpr rfl, Cond.after_iff.mpr (eq_i res_at (Term.int_eval (1)) rfl), trivial⟩ ⟨hq.1, hq.2.1, (hq.2.2.sift fun y hy => Or.inr (N y hy)).mono (by decide) (by decide)⟩⟩
      · obtain ⟨n, o, h1, h2, h3, _, L, rfl, ⟨rfl, N⟩, hq⟩ := rm0_4 l s _ hw tables_1 i0 i1 i2 i3 i4 w3 s.heap s.heap.size (Nat.le_refl _) S_D (Old.start s) (own_four i0 c1 c2 c3) c1 c2 c3 p e ha hc hk s m _ below hf ((Spec.applies_iff_loose hf).mp happ).1 ⟨rfl, State.Warmed39.refl s, rfl⟩ trivial
        refine ⟨n, _, h1, h2, h3, hpost _ _ _ _ _ _ ⟨Cond.after_iff.mpr rfl, Cond.after_iff.mpr (eq_i res_at (Term.int_eval (1)) rfl), trivial⟩ ⟨hq.1, hq.2.1, (hq.2.2.sift fun y hy => Or.inr (N y hy)).mono (by decide) (by decide)⟩⟩
theorem main_1_1 : Claimed_1_1 := comes_1 fun _ _ _ _ _ _ h hF => ⟨h.1, hF⟩
theorem main_1_2 : Claimed_1_2 := comes_1 fun _ _ _ _ _ _ h hF => ⟨h.2.1, hF⟩
end Jvm.Pilot.@@N@@
namespace Jvm.Pilot.@@N@@
open Jvm Jvm.ClassFile Sem Op Lib Jvm.Free Jvm.Stand Jvm.Pilot.@@N@@.Jvm.D
/-! MADE BY PROGRAM (witnessworld.py) out of the Statement's table words and the real class files: 21 classes; the members and pool entries that the words name. The judged class is class 1, her method 1. -/
namespace start1
open Jvm.ClassFile
def u (s : String) : CpInfo := .utf8 (stringToUtf16 s)
/-- a pool by its gaps: so many unusable entries, then the entry; so many at the end -/
def gap : Nat → List CpInfo → List CpInfo
  | 0, r => r
  | n + 1, r => .unusable :: gap n r
def poolList (es : List (Nat × CpInfo)) (last : Nat) : List CpInfo := es.foldr (fun e r => gap e.1 (e.2 :: r)) (gap last [])
def pool (es : List (Nat × CpInfo)) (last : Nat) : Array CpInfo := ⟨poolList es last⟩
def fileOf (pool : Array CpInfo) (this : Nat) (attrs : Array Attribute := #[]) (ms : Array MethodInfo := #[]) (fl : Nat := 33) (sup : Nat := 0) (ifs : Array Nat := #[]) (fds : Array FieldInfo := #[]) : ClassFile where
  minorVersion := 0
  majorVersion := 65
  constantPool := pool
  accessFlags := fl
  thisClass := this
  superClass := sup
  interfaces := ifs
  fields := fds
  methods := ms
  attributes := attrs
def plain (name : String) (sup : Option ClassId) : Class where
  name := name
  kind := .ordinary
  loader := none
  accessFlags := 33
  super := sup
  interfaces := #[]
  cf := none
  fields := #[]
  methods := #[]
  instanceTypes := #[]
  staticTypes := #[]
  resolved := #[]
  callSites := []
  init := .initialized
  statics := none
  mirror := none

def pool0 : Array CpInfo := pool [(5, u "<init>"), (0, u "()V"), (1, .class_ 10), (1, u "java/lang/Object")] 113

def k0c0 : Code := { maxStack := 0, maxLocals := 1, code := object_method_1_code, exceptionTable := #[], attributes := #[] }
def k0m0 : Method := { name := "<init>", desc := "()V", sig := { parameters := [], returnType := none }, accessFlags := 1, code := some k0c0 }
/-- java/lang/Object -/
def k0 : Class := { plain "java/lang/Object" none with
  accessFlags := 33
  interfaces := #[]
  cf := some (fileOf pool0 8 #[] #[{ accessFlags := 1, nameIndex := 5, descriptorIndex := 6, attributes := #[] }] 33 0 #[] #[])
  fields := #[]
  methods := #[k0m0]
  instanceTypes := #[]
  staticTypes := #[]
  resolved := Array.replicate 124 none
  statics := none }

def pool1 : Array CpInfo := pool [(2, .class_ 4), (0, .nameAndType 5 6), (0, u "java/lang/Object"), (0, u "<init>"), (0, u "()V"), (0, .class_ 8), (0, u "java/util/ArrayList"), (0, .methodref 7 3), (0, .class_ 11), (0, u "com/example/tidegrid/tidegrid/Benchmark$Timed"), (0, .methodref 10 13), (0, .nameAndType 5 14), (0, u "([DDLjava/util/List;)V"), (0, .methodref 10 16), (0, .nameAndType 17 18), (0, u "mean"), (0, u "()D"), (0, .class_ 20), (0, u "com/example/tidegrid/tidegrid/TimedMeanPinLaw"), (2, u "law"), (0, u "(IIIII)Z")] 11

def k1m0 : Method := { name := "<init>", desc := "()V", sig := { parameters := [], returnType := none }, accessFlags := 2, code := none }
def k1c1 : Code := { maxStack := 6, maxLocals := 13, code := code, exceptionTable := #[], attributes := #[] }
def k1m1 : Method := { name := "law", desc := "(IIIII)Z", sig := { parameters := [.int, .int, .int, .int, .int], returnType := some .boolean }, accessFlags := 9, code := some k1c1 }
/-- com/example/tidegrid/tidegrid/TimedMeanPinLaw -/
def k1 : Class := { plain "com/example/tidegrid/tidegrid/TimedMeanPinLaw" (some 0) with
  accessFlags := 49
  interfaces := #[]
  cf := some (fileOf pool1 19 #[] #[{ accessFlags := 2, nameIndex := 5, descriptorIndex := 6, attributes := #[] }, { accessFlags := 9, nameIndex := 23, descriptorIndex := 24, attributes := #[] }] 49 2 #[] #[])
  fields := #[]
  methods := #[k1m0, k1m1]
  instanceTypes := #[]
  staticTypes := #[]
  resolved := Array.replicate 36 none
  statics := none }

def pool2 : Array CpInfo := pool [(8, .class_ 10), (1, u "java/lang/Iterable"), (24, .class_ 36), (0, u "java/lang/Object")] 25

/-- java/lang/Iterable -/
def k2 : Class := { plain "java/lang/Iterable" (some 0) with
  accessFlags := 1537
  interfaces := #[]
  cf := some (fileOf pool2 8 #[] #[] 1537 35 #[] #[])
  fields := #[]
  methods := #[]
  instanceTypes := #[]
  staticTypes := #[]
  resolved := Array.replicate 62 none
  statics := none }

def pool3 : Array CpInfo := pool [(10, .class_ 12), (1, u "java/util/Collection"), (47, .class_ 61), (0, u "java/lang/Object"), (0, .class_ 63), (0, u "java/lang/Iterable")] 51

/-- java/util/Collection -/
def k3 : Class := { plain "java/util/Collection" (some 0) with
  accessFlags := 1537
  interfaces := #[2]
  cf := some (fileOf pool3 10 #[] #[] 1537 60 #[62] #[])
  fields := #[]
  methods := #[]
  instanceTypes := #[]
  staticTypes := #[]
  resolved := Array.replicate 115 none
  statics := none }

def pool4 : Array CpInfo := pool [(1, .methodref 2 3), (0, .class_ 4), (0, .nameAndType 5 6), (0, u "java/lang/Object"), (0, u "<init>"), (0, u "()V"), (1, .class_ 10), (1, u "java/util/AbstractCollection"), (66, .class_ 78), (0, u "java/util/Collection")] 81

def k4c0 : Code := { maxStack := 1, maxLocals := 1, code := jdk_22_method_1_code, exceptionTable := #[], attributes := #[] }
def k4m0 : Method := { name := "<init>", desc := "()V", sig := { parameters := [], returnType := none }, accessFlags := 4, code := some k4c0 }
/-- java/util/AbstractCollection -/
def k4 : Class := { plain "java/util/AbstractCollection" (some 0) with
  accessFlags := 1057
  interfaces := #[3]
  cf := some (fileOf pool4 8 #[] #[{ accessFlags := 4, nameIndex := 5, descriptorIndex := 6, attributes := #[] }] 1057 2 #[77] #[])
  fields := #[]
  methods := #[k4m0]
  instanceTypes := #[]
  staticTypes := #[]
  resolved := Array.replicate 160 none
  statics := none }

def pool5 : Array CpInfo := pool [(8, .class_ 10), (1, u "java/util/SequencedCollection"), (15, .class_ 27), (0, u "java/lang/Object"), (0, .class_ 29), (0, u "java/util/Collection")] 27

/-- java/util/SequencedCollection -/
def k5 : Class := { plain "java/util/SequencedCollection" (some 0) with
  accessFlags := 1537
  interfaces := #[3]
  cf := some (fileOf pool5 8 #[] #[] 1537 26 #[28] #[])
  fields := #[]
  methods := #[]
  instanceTypes := #[]
  staticTypes := #[]
  resolved := Array.replicate 57 none
  statics := none }

def pool6 : Array CpInfo := pool [(8, .class_ 10), (1, u "java/util/List"), (92, .class_ 104), (0, u "java/lang/Object"), (15, .class_ 121), (0, u "java/util/SequencedCollection")] 129

/-- java/util/List -/
def k6 : Class := { plain "java/util/List" (some 0) with
  accessFlags := 1537
  interfaces := #[5]
  cf := some (fileOf pool6 8 #[] #[] 1537 103 #[120] #[])
  fields := #[]
  methods := #[]
  instanceTypes := #[]
  staticTypes := #[]
  resolved := Array.replicate 251 none
  statics := none }

def pool7 : Array CpInfo := pool [(1, .methodref 2 3), (0, .class_ 4), (0, .nameAndType 5 6), (0, u "java/util/AbstractCollection"), (0, u "<init>"), (0, u "()V"), (0, .fieldref 8 9), (0, .class_ 10), (0, .nameAndType 11 12), (0, u "java/util/AbstractList"), (0, u "modCount"), (0, u "I"), (64, .class_ 78), (0, u "java/util/AbstractList$Itr"), (3, .class_ 83), (0, u "java/util/AbstractList$ListItr"), (9, .class_ 94), (0, u "java/util/AbstractList$RandomAccessSubList"), (3, .class_ 99), (0, u "java/util/AbstractList$SubList"), (33, .class_ 134), (0, u "java/util/List"), (73, .class_ 209), (0, u "java/util/AbstractList$SubList$1"), (0, .class_ 211), (0, u "java/util/AbstractList$RandomAccessSpliterator")] 6

def k7c0 : Code := { maxStack := 2, maxLocals := 1, code := jdk_39_method_1_code, exceptionTable := #[], attributes := #[] }
def k7m0 : Method := { name := "<init>", desc := "()V", sig := { parameters := [], returnType := none }, accessFlags := 4, code := some k7c0 }
/-- java/util/AbstractList -/
def k7 : Class := { plain "java/util/AbstractList" (some 4) with
  accessFlags := 1057
  interfaces := #[6]
  cf := some (fileOf pool7 8 #[.nestMembers #[93, 98, 208, 210, 82, 77]] #[{ accessFlags := 4, nameIndex := 5, descriptorIndex := 6, attributes := #[] }] 1057 2 #[133] #[{ accessFlags := 132, nameIndex := 11, descriptorIndex := 12, attributes := #[] }])
  fields := #[{ name := "modCount", type := .int, accessFlags := 132, slot := 0, constantValue := 0 }]
  methods := #[k7m0]
  instanceTypes := #[.int]
  staticTypes := #[]
  resolved := Array.replicate 218 none
  statics := none }

def pool8 : Array CpInfo := pool [(1, .class_ 2), (0, u "java/util/RandomAccess"), (0, .class_ 4), (0, u "java/lang/Object")] 2

/-- java/util/RandomAccess -/
def k8 : Class := { plain "java/util/RandomAccess" (some 0) with
  accessFlags := 1537
  interfaces := #[]
  cf := some (fileOf pool8 1 #[] #[] 1537 3 #[] #[])
  fields := #[]
  methods := #[]
  instanceTypes := #[]
  staticTypes := #[]
  resolved := Array.replicate 7 none
  statics := none }

def pool9 : Array CpInfo := pool [(1, .class_ 2), (0, u "java/lang/Cloneable"), (0, .class_ 4), (0, u "java/lang/Object")] 2

/-- java/lang/Cloneable -/
def k9 : Class := { plain "java/lang/Cloneable" (some 0) with
  accessFlags := 1537
  interfaces := #[]
  cf := some (fileOf pool9 1 #[] #[] 1537 3 #[] #[])
  fields := #[]
  methods := #[]
  instanceTypes := #[]
  staticTypes := #[]
  resolved := Array.replicate 7 none
  statics := none }

def pool10 : Array CpInfo := pool [(1, .class_ 2), (0, u "java/io/Serializable"), (0, .class_ 4), (0, u "java/lang/Object")] 2

/-- java/io/Serializable -/
def k10 : Class := { plain "java/io/Serializable" (some 0) with
  accessFlags := 1537
  interfaces := #[]
  cf := some (fileOf pool10 1 #[] #[] 1537 3 #[] #[])
  fields := #[]
  methods := #[]
  instanceTypes := #[]
  staticTypes := #[]
  resolved := Array.replicate 7 none
  statics := none }

def pool11 : Array CpInfo := pool [(1, .methodref 2 3), (0, .class_ 4), (0, .nameAndType 5 6), (0, u "java/util/AbstractList"), (0, u "<init>"), (0, u "()V"), (2, .fieldref 10 11), (0, .class_ 12), (0, .nameAndType 13 14), (0, u "java/util/ArrayList"), (0, u "elementData"), (0, u "[Ljava/lang/Object;"), (2, u "EMPTY_ELEMENTDATA"), (21, .fieldref 10 40), (0, .nameAndType 41 14), (0, u "DEFAULTCAPACITY_EMPTY_ELEMENTDATA"), (8, u "size"), (0, u "I"), (96, .class_ 149), (0, u "java/util/List"), (112, .class_ 263), (0, u "java/util/ArrayList$ListItr"), (3, .class_ 268), (0, u "java/util/ArrayList$Itr"), (7, .class_ 277), (0, u "java/util/ArrayList$SubList"), (12, .class_ 291), (0, u "java/util/ArrayList$ArrayListSpliterator"), (37, .class_ 330), (0, u "java/util/RandomAccess"), (0, .class_ 332), (0, u "java/lang/Cloneable"), (0, .class_ 334), (0, u "java/io/Serializable"), (0, u "serialVersionUID"), (0, u "J"), (3, u "DEFAULT_CAPACITY"), (159, .class_ 501), (0, u "java/util/ArrayList$SubList$2"), (0, .class_ 503), (0, u "java/util/ArrayList$SubList$1")] 5

def k11c0 : Code := { maxStack := 2, maxLocals := 1, code := jdk_38_method_2_code, exceptionTable := #[], attributes := #[] }
def k11m0 : Method := { name := "<init>", desc := "()V", sig := { parameters := [], returnType := none }, accessFlags := 1, code := some k11c0 }
/-- java/util/ArrayList -/
def k11 : Class := { plain "java/util/ArrayList" (some 7) with
  accessFlags := 33
  interfaces := #[6, 8, 9, 10]
  cf := some (fileOf pool11 10 #[.nestMembers #[290, 276, 500, 502, 262, 267]] #[{ accessFlags := 1, nameIndex := 5, descriptorIndex := 6, attributes := #[] }] 33 2 #[148, 329, 331, 333] #[{ accessFlags := 26, nameIndex := 335, descriptorIndex := 336, attributes := #[] }, { accessFlags := 26, nameIndex := 340, descriptorIndex := 51, attributes := #[] }, { accessFlags := 26, nameIndex := 17, descriptorIndex := 14, attributes := #[] }, { accessFlags := 26, nameIndex := 41, descriptorIndex := 14, attributes := #[] }, { accessFlags := 128, nameIndex := 13, descriptorIndex := 14, attributes := #[] }, { accessFlags := 2, nameIndex := 50, descriptorIndex := 51, attributes := #[] }])
  fields := #[{ name := "serialVersionUID", type := .long, accessFlags := 26, slot := 0, constantValue := 0 }, { name := "DEFAULT_CAPACITY", type := .int, accessFlags := 26, slot := 1, constantValue := 0 }, { name := "EMPTY_ELEMENTDATA", type := (.array (.object "java/lang/Object")), accessFlags := 26, slot := 2, constantValue := 0 }, { name := "DEFAULTCAPACITY_EMPTY_ELEMENTDATA", type := (.array (.object "java/lang/Object")), accessFlags := 26, slot := 3, constantValue := 0 }, { name := "elementData", type := (.array (.object "java/lang/Object")), accessFlags := 128, slot := 1, constantValue := 0 }, { name := "size", type := .int, accessFlags := 2, slot := 2, constantValue := 0 }]
  methods := #[k11m0]
  instanceTypes := #[.int, (.array (.object "java/lang/Object")), .int]
  staticTypes := #[.long, .int, (.array (.object "java/lang/Object")), (.array (.object "java/lang/Object"))]
  resolved := Array.replicate 509 none
  statics := some 0 }

def pool12 : Array CpInfo := pool [(1, .methodref 2 3), (0, .class_ 4), (0, .nameAndType 5 6), (0, u "java/lang/Object"), (0, u "<init>"), (0, u "()V"), (0, .class_ 8), (0, u "java/lang/Record")] 13

def k12c0 : Code := { maxStack := 1, maxLocals := 1, code := jdk_30_method_1_code, exceptionTable := #[], attributes := #[] }
def k12m0 : Method := { name := "<init>", desc := "()V", sig := { parameters := [], returnType := none }, accessFlags := 4, code := some k12c0 }
/-- java/lang/Record -/
def k12 : Class := { plain "java/lang/Record" (some 0) with
  accessFlags := 1057
  interfaces := #[]
  cf := some (fileOf pool12 7 #[] #[{ accessFlags := 4, nameIndex := 5, descriptorIndex := 6, attributes := #[] }] 1057 2 #[] #[])
  fields := #[]
  methods := #[k12m0]
  instanceTypes := #[]
  staticTypes := #[]
  resolved := Array.replicate 22 none
  statics := none }

def pool13 : Array CpInfo := pool [(1, .methodref 2 3), (0, .class_ 4), (0, .nameAndType 5 6), (0, u "java/lang/Record"), (0, u "<init>"), (0, u "()V"), (0, .fieldref 8 9), (0, .class_ 10), (0, .nameAndType 11 12), (0, u "com/example/tidegrid/tidegrid/Benchmark$Timed"), (0, u "ms"), (0, u "[D"), (0, .fieldref 8 14), (0, .nameAndType 15 16), (0, u "examinedMean"), (0, u "D"), (0, .fieldref 8 18), (0, .nameAndType 19 20), (0, u "checked"), (0, u "Ljava/util/List;"), (1, .class_ 24), (1, u "com/example/tidegrid/tidegrid/Benchmark"), (16, u "([DDLjava/util/List;)V"), (4, u "mean"), (0, u "()D")] 33

def k13c0 : Code := { maxStack := 3, maxLocals := 5, code := prog_15_method_1_code, exceptionTable := #[], attributes := #[] }
def k13m0 : Method := { name := "<init>", desc := "([DDLjava/util/List;)V", sig := { parameters := [(.array .double), .double, (.object "java/util/List")], returnType := none }, accessFlags := 0, code := some k13c0 }
def k13c1 : Code := { maxStack := 4, maxLocals := 8, code := prog_15_method_2_code, exceptionTable := #[], attributes := #[] }
def k13m1 : Method := { name := "mean", desc := "()D", sig := { parameters := [], returnType := some .double }, accessFlags := 0, code := some k13c1 }
/-- com/example/tidegrid/tidegrid/Benchmark$Timed -/
def k13 : Class := { plain "com/example/tidegrid/tidegrid/Benchmark$Timed" (some 12) with
  accessFlags := 48
  interfaces := #[]
  cf := some (fileOf pool13 8 #[.nestHost 22] #[{ accessFlags := 0, nameIndex := 5, descriptorIndex := 41, attributes := #[] }, { accessFlags := 0, nameIndex := 46, descriptorIndex := 47, attributes := #[] }] 48 2 #[] #[{ accessFlags := 18, nameIndex := 11, descriptorIndex := 12, attributes := #[] }, { accessFlags := 18, nameIndex := 15, descriptorIndex := 16, attributes := #[] }, { accessFlags := 18, nameIndex := 19, descriptorIndex := 20, attributes := #[] }])
  fields := #[{ name := "ms", type := (.array .double), accessFlags := 18, slot := 0, constantValue := 0 }, { name := "examinedMean", type := .double, accessFlags := 18, slot := 1, constantValue := 0 }, { name := "checked", type := (.object "java/util/List"), accessFlags := 18, slot := 2, constantValue := 0 }]
  methods := #[k13m0, k13m1]
  instanceTypes := #[(.array .double), .double, (.object "java/util/List")]
  staticTypes := #[]
  resolved := Array.replicate 81 none
  statics := none }

/-- the primitive byte -/
def k14 : Class := { plain "byte" none with kind := .primitive 'B', accessFlags := 0x411 }
/-- [B -/
def k15 : Class := { plain "[B" (some 0) with kind := .array 14 .byte, interfaces := #[9, 10], accessFlags := 1041 }

/-- the primitive double -/
def k16 : Class := { plain "double" none with kind := .primitive 'D', accessFlags := 0x411 }
/-- [D -/
def k17 : Class := { plain "[D" (some 0) with kind := .array 16 .double, interfaces := #[9, 10], accessFlags := 1041 }

/-- the primitive int -/
def k18 : Class := { plain "int" none with kind := .primitive 'I', accessFlags := 0x411 }
/-- [I -/
def k19 : Class := { plain "[I" (some 0) with kind := .array 18 .int, interfaces := #[9, 10], accessFlags := 1041 }

/-- [Ljava/lang/Object; -/
def k20 : Class := { plain "[Ljava/lang/Object;" (some 0) with kind := .array 0 (.object "java/lang/Object"), interfaces := #[9, 10], accessFlags := 1041 }

def heap : Heap := #[{ cls := 11, slots := #[.long 0, .int 0, .ref 1, .ref 2], vm := .statics 11 },
  { cls := 20, slots := #[], vm := .none },
  { cls := 20, slots := #[], vm := .none }]
def classes : Array Class := #[k0, k1, k2, k3, k4, k5, k6, k7, k8, k9, k10, k11, k12, k13, k14, k15, k16, k17, k18, k19, k20]
def interned : List (Array UInt16 × Addr) := []
def slotsUsed : Nat := 4
def theMethod : MethodId := ⟨1, 1⟩
def args0 : Array Value := #[.int 2, .int 5, .int 7, .int 11, .int 13]
def aboutOver (below : List Frame) : State where
  vm := { classes := classes, interned := interned.toArray }
  heap := heap
  slotsUsed := slotsUsed
  threads := #[{ frames := .invoking theMethod args0 :: below }]
def below0 : List Frame := [.native { method := ⟨0, 0⟩, args := #[] }]
def about1 : State := aboutOver below0
def p0 : Program := .bare "" "" ""
def e0 : Env := launch0.env 0 0 0
theorem w_frames : about1.frames = Frame.invoking theMethod args0 :: below0 := rfl
set_option maxRecDepth 65536 in
theorem w_args : argsFit about1.vm theMethod args0 = true := by decide +kernel
set_option maxRecDepth 65536 in
theorem w_heap : heapFits about1 = true := by decide +kernel
set_option maxRecDepth 65536 in
theorem w_runnable : about1.curStatus? = some .runnable := by decide +kernel
set_option maxRecDepth 65536 in
theorem w_alone : about1.alone = true := by decide +kernel
set_option maxRecDepth 65536 in
theorem w_named : about1.methodNamed? x = some theMethod := by decide +kernel
set_option maxRecDepth 65536 in
theorem w_hears : about1.hears theMethod below0 = true := by decide +kernel
set_option maxRecDepth 65536 in
theorem w_ripe : about1.ripe theMethod args0 below0 = true := by decide +kernel
theorem w_running : about1.status = .running := rfl
set_option maxRecDepth 65536 in
theorem w_room : about1.hasRoom e0.platform room_1 = true :=
  launch0.hasRoom_least _ room_1 (by decide +kernel) (by decide +kernel) (by decide +kernel) (by decide +kernel) (by decide +kernel) (by decide +kernel)
theorem allAtoms_all (ts : List Jvm.Cond) (a : Array Jvm.Value) (st : Jvm.State) : (allAtoms ts).before a st = ts.all (fun c => c.before a st) := by
  induction ts with
  | nil => rfl
  | cons c t ih =>
    show (Jvm.Cond.and c (allAtoms t)).before a st = _
    rw [Jvm.Cond.before_and, ih, List.all_cons]
def words1 : List Jvm.Cond := Jvm.Cond.code x code maxLocals ret :: tables_1
/-- a 'code' word, met by the world's own term for the bytes: nothing is compared byte by byte -/
theorem code_word {y : MethodName} {bytes : ByteArray} {mx : Nat} {rt : Option FieldType} {a : Array Value} {s : State} {m : MethodId} {meth : Method} {c : Code} (h1 : s.methodNamed? y = some m) (h2 : s.vm.method? m = some meth) (h3 : meth.code = some c) (h4 : c.code = bytes)
    (h5 : (c.maxLocals == mx && c.exceptionTable.isEmpty && decide (c.maxStack ≤ mostOperands) && decide (meth.sig.returnType = rt) && !meth.locks && decide (parseMethodDescriptor y.desc = some meth.sig)) = true) : (Jvm.Cond.code y bytes mx rt).before a s = true := by
  simp only [Bool.and_eq_true, beq_iff_eq, Bool.not_eq_true', decide_eq_true_eq] at h5
  obtain ⟨⟨⟨⟨⟨g1, g2⟩, g3⟩, g4⟩, g5⟩, g6⟩ := h5
  simp [Cond.before, Cond.holds, Cond.value, h1, h2, h3, h4, g1, g2, g3, g4, g5, g6]
def isCode : Jvm.Cond → Bool
  | .code _ _ _ _ => true
  | _ => false
theorem all_split {L : List Jvm.Cond} {P : Jvm.Cond → Bool} (h1 : L.all (fun c => isCode c || P c) = true) (h2 : ∀ c ∈ L.filter isCode, P c = true) : L.all P = true := by
  refine List.all_eq_true.mpr fun c hc => ?_
  have h := List.all_eq_true.mp h1 c hc
  rcases Bool.eq_false_or_eq_true (isCode c) with hi | hi
  · exact h2 c (List.mem_filter.mpr ⟨hc, hi⟩)
  · simpa [hi] using h
set_option maxRecDepth 65536 in
theorem w_c0 : (Jvm.Cond.code x code maxLocals ret).before args0 about1 = true := code_word (m := ⟨1, 1⟩) (meth := k1m1) (c := k1c1) (by decide +kernel) rfl rfl rfl (by decide +kernel)
set_option maxRecDepth 65536 in
theorem w_c1 : (Jvm.Cond.code ({ cls := "java/util/ArrayList", name := "<init>", desc := "()V" } : Jvm.MethodName) jdk_38_method_2_code (1 : Nat) (Option.none : Option Jvm.ClassFile.FieldType)).before args0 about1 = true := code_word (m := ⟨11, 0⟩) (meth := k11m0) (c := k11c0) (by decide +kernel) rfl rfl rfl (by decide +kernel)
set_option maxRecDepth 65536 in
theorem w_c2 : (Jvm.Cond.code ({ cls := "java/util/AbstractList", name := "<init>", desc := "()V" } : Jvm.MethodName) jdk_39_method_1_code (1 : Nat) (Option.none : Option Jvm.ClassFile.FieldType)).before args0 about1 = true := code_word (m := ⟨7, 0⟩) (meth := k7m0) (c := k7c0) (by decide +kernel) rfl rfl rfl (by decide +kernel)
set_option maxRecDepth 65536 in
theorem w_c3 : (Jvm.Cond.code ({ cls := "java/util/AbstractCollection", name := "<init>", desc := "()V" } : Jvm.MethodName) jdk_22_method_1_code (1 : Nat) (Option.none : Option Jvm.ClassFile.FieldType)).before args0 about1 = true := code_word (m := ⟨4, 0⟩) (meth := k4m0) (c := k4c0) (by decide +kernel) rfl rfl rfl (by decide +kernel)
set_option maxRecDepth 65536 in
theorem w_c4 : (Jvm.Cond.code ({ cls := "java/lang/Object", name := "<init>", desc := "()V" } : Jvm.MethodName) object_method_1_code (1 : Nat) (Option.none : Option Jvm.ClassFile.FieldType)).before args0 about1 = true := code_word (m := ⟨0, 0⟩) (meth := k0m0) (c := k0c0) (by decide +kernel) rfl rfl rfl (by decide +kernel)
set_option maxRecDepth 65536 in
theorem w_c5 : (Jvm.Cond.code ({ cls := "com/example/tidegrid/tidegrid/Benchmark$Timed", name := "<init>", desc := "([DDLjava/util/List;)V" } : Jvm.MethodName) prog_15_method_1_code (5 : Nat) (Option.none : Option Jvm.ClassFile.FieldType)).before args0 about1 = true := code_word (m := ⟨13, 0⟩) (meth := k13m0) (c := k13c0) (by decide +kernel) rfl rfl rfl (by decide +kernel)
set_option maxRecDepth 65536 in
theorem w_c6 : (Jvm.Cond.code ({ cls := "java/lang/Record", name := "<init>", desc := "()V" } : Jvm.MethodName) jdk_30_method_1_code (1 : Nat) (Option.none : Option Jvm.ClassFile.FieldType)).before args0 about1 = true := code_word (m := ⟨12, 0⟩) (meth := k12m0) (c := k12c0) (by decide +kernel) rfl rfl rfl (by decide +kernel)
set_option maxRecDepth 65536 in
theorem w_c7 : (Jvm.Cond.code ({ cls := "com/example/tidegrid/tidegrid/Benchmark$Timed", name := "mean", desc := "()D" } : Jvm.MethodName) prog_15_method_2_code (8 : Nat) (Option.some Jvm.ClassFile.FieldType.double)).before args0 about1 = true := code_word (m := ⟨13, 1⟩) (meth := k13m1) (c := k13c1) (by decide +kernel) rfl rfl rfl (by decide +kernel)
def codes1 : List Jvm.Cond := [Jvm.Cond.code x code maxLocals ret, Jvm.Cond.code ({ cls := "java/util/ArrayList", name := "<init>", desc := "()V" } : Jvm.MethodName) jdk_38_method_2_code (1 : Nat) (Option.none : Option Jvm.ClassFile.FieldType), Jvm.Cond.code ({ cls := "java/util/AbstractList", name := "<init>", desc := "()V" } : Jvm.MethodName) jdk_39_method_1_code (1 : Nat) (Option.none : Option Jvm.ClassFile.FieldType), Jvm.Cond.code ({ cls := "java/util/AbstractCollection", name := "<init>", desc := "()V" } : Jvm.MethodName) jdk_22_method_1_code (1 : Nat) (Option.none : Option Jvm.ClassFile.FieldType), Jvm.Cond.code ({ cls := "java/lang/Object", name := "<init>", desc := "()V" } : Jvm.MethodName) object_method_1_code (1 : Nat) (Option.none : Option Jvm.ClassFile.FieldType), Jvm.Cond.code ({ cls := "com/example/tidegrid/tidegrid/Benchmark$Timed", name := "<init>", desc := "([DDLjava/util/List;)V" } : Jvm.MethodName) prog_15_method_1_code (5 : Nat) (Option.none : Option Jvm.ClassFile.FieldType), Jvm.Cond.code ({ cls := "java/lang/Record", name := "<init>", desc := "()V" } : Jvm.MethodName) jdk_30_method_1_code (1 : Nat) (Option.none : Option Jvm.ClassFile.FieldType), Jvm.Cond.code ({ cls := "com/example/tidegrid/tidegrid/Benchmark$Timed", name := "mean", desc := "()D" } : Jvm.MethodName) prog_15_method_2_code (8 : Nat) (Option.some Jvm.ClassFile.FieldType.double)]
set_option maxRecDepth 65536 in
theorem codes_eq : words1.filter isCode = codes1 := rfl
theorem w_codes : ∀ c ∈ words1.filter isCode, c.before args0 about1 = true := by
  rw [codes_eq]
  intro c hc
  simp only [codes1, List.mem_cons, List.not_mem_nil, or_false] at hc
  rcases hc with rfl | rfl | rfl | rfl | rfl | rfl | rfl | rfl
  · exact w_c0
  · exact w_c1
  · exact w_c2
  · exact w_c3
  · exact w_c4
  · exact w_c5
  · exact w_c6
  · exact w_c7
set_option maxRecDepth 65536 in
theorem w_t1 : (words1.take 24).all (fun c => isCode c || c.before args0 about1) = true := by decide +kernel
set_option maxRecDepth 65536 in
theorem w_t2 : ((words1.drop 24).take 24).all (fun c => isCode c || c.before args0 about1) = true := by decide +kernel
set_option maxRecDepth 65536 in
theorem w_t3 : ((words1.drop 24).drop 24).all (fun c => isCode c || c.before args0 about1) = true := by decide +kernel
theorem w_tables : (allAtoms (Jvm.Cond.code x code maxLocals ret :: tables_1)).before args0 about1 = true := by
  rw [allAtoms_all]
  show words1.all (fun c => c.before args0 about1) = true
  refine all_split ?_ w_codes
  rw [← List.take_append_drop 24 words1, List.all_append, w_t1, ← List.take_append_drop 24 (words1.drop 24), List.all_append, w_t2, w_t3]
  rfl
set_option maxRecDepth 65536 in
theorem w_rest : rest_1_c.before args0 about1 = true := by decide +kernel
set_option maxRecDepth 65536 in
theorem w_case : (Jvm.Cond.and given_1 narrow_1).before args0 about1 = true := by decide +kernel
theorem w_applies : (headSpec (Jvm.Cond.code x code maxLocals ret :: tables_1) room_1).applies x e0.platform about1 = true :=
  (Spec.applies_iff w_frames).mpr ⟨w_running, w_runnable, w_alone, w_named, w_hears, w_ripe, w_room, w_tables⟩
theorem atStart : AtStart classFile x code maxLocals ret World_1 tables_1 room_1 Calls_1 rest_1 Pre_1 launch0 p0 e0 about1 theMethod args0 below0 :=
  ⟨lists_1, trivial, launch0.admits_env _ _ _, launch0.least_env, fairChoices_fair.cas, fairChoices_fair.clock, w_frames, w_args, w_heap, w_applies, trivial, w_rest, w_case⟩
end start1
theorem witness_1 : WitnessClaimed_1 := ⟨start1.p0, start1.e0, start1.about1, start1.theMethod, start1.args0, start1.below0, start1.atStart⟩
end Jvm.Pilot.@@N@@
