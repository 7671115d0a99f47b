import JvmDerived
import JvmDerived.Pilot.@@N@@Statement
import JvmDerived.Pilot.@@N@@Code
set_option linter.unusedVariables false
set_option linter.unusedSimpArgs false
namespace Jvm.RoadKit
open Sem ClassFile Op Lib Jvm.Stand Jvm.Free Jvm.LawKit
section New
variable {p : Program} {l : Launch} {e : Env} {R : Room} {s : State} {m : MethodId} {args : Array Value} {below : List Frame} {meth : Method} {c : Code} {T : State} {locs : List Loc} {cells slots : Nat}
theorem retI (X : Stand p l e R s m args below meth c T locs cells slots) (hx : p.tables.exec = Jvm.exec) {pc : Nat} {Ls : Array Slot} {z : Int32} {rest : List Value} (hret : meth.sig.returnType = some .int) (hd : decode c.code pc = .ok (.ireturn, 1)) {fs : List Frame}
    (hl : ∀ (f : JFrame) (acts : List Action), f.method = m → f.locked = none → f.entered = [] → (doReturn e (T.setTop f) acts (some (.int z))).1 = T.setFrames fs) : Steps p.tables e below (T.setTop (mkF m pc Ls (.int z :: rest))) (T.setFrames fs) := by
  have hm' : T.vm.method? m = some meth := X.method'
  have hn : narrow .int (.int z) = .int z := rfl
  show Steps p.tables e below (T.setTop { method := m, pc := pc, locals := Ls, stack := _ :: rest, locked := none }) _
  jvm_step X.here [X.here.top, hx, hd, hm', hret, hn]
  first | (intro acts; rw [hl _ acts rfl rfl rfl]) | rw [hl _ _ rfl rfl rfl]
  exact Steps.refl _
end New
end Jvm.RoadKit
namespace Jvm.Pilot.@@N@@
open Jvm Jvm.ClassFile Sem Op Lib Jvm.Free Jvm.Stand Jvm.LawKit Jvm.RoadKit Bundle Jvm.Pilot.@@N@@.Jvm.D
/-- what a body that writes nothing leaves -/
def QR (r : Option Value) (h0 : Heap) (n0 : Nat) (v : Option Value) (h : Heap) (L : List Loc) : Prop := v = r ∧ Fr n0 L ∧ h = h0
theorem own_i2d {tb : Tables} [Ours tb] {e : Env} {below : List Frame} {T target : State} {m : MethodId} {c : Code} {g : JFrame} (h : At T m c below) (hx : tb.exec = Jvm.exec) (hg : g.method = m) {x : Int32} {rest : List Value} (hd : decode c.code g.pc = .ok (.i2d, 1)) (hs : g.stack = .int x :: rest)
    (hr : Steps tb e below (T.setTop { g with pc := g.pc + 1, stack := .double (FP.i2d x) :: rest }) target) : Steps tb e below (T.setTop g) target := by
  subst hg
  jvm_step h [h.top, hx, hd, hs]
  exact hr
theorem own_l2d {tb : Tables} [Ours tb] {e : Env} {below : List Frame} {T target : State} {m : MethodId} {c : Code} {g : JFrame} (h : At T m c below) (hx : tb.exec = Jvm.exec) (hg : g.method = m) {x : Int64} {rest : List Value} (hd : decode c.code g.pc = .ok (.l2d, 1)) (hs : g.stack = .long x :: rest)
    (hr : Steps tb e below (T.setTop { g with pc := g.pc + 1, stack := .double (FP.l2d x) :: rest }) target) : Steps tb e below (T.setTop g) target := by
  subst hg
  jvm_step h [h.top, hx, hd, hs]
  exact hr
theorem own_ddiv {tb : Tables} [Ours tb] {e : Env} {below : List Frame} {T target : State} {m : MethodId} {c : Code} {g : JFrame} (h : At T m c below) (hx : tb.exec = Jvm.exec) (hg : g.method = m) {x y : UInt64} {rest : List Value} (hd : decode c.code g.pc = .ok (.ddiv, 1)) (hs : g.stack = .double y :: .double x :: rest) (hn : FP.ddiv x y &&& 0x7fffffffffffffff ≤ 0x7ff0000000000000)
    (hr : Steps tb e below (T.setTop { g with pc := g.pc + 1, stack := .double (FP.ddiv x y) :: rest }) target) : Steps tb e below (T.setTop g) target := by
  subst hg
  jvm_step h [hx, hd, Op.ddiv.wp_number (e := e) (s := T) (f := g) h.top hs hn]
  exact hr
theorem own_dadd {tb : Tables} [Ours tb] {e : Env} {below : List Frame} {T target : State} {m : MethodId} {c : Code} {g : JFrame} (h : At T m c below) (hx : tb.exec = Jvm.exec) (hg : g.method = m) {x y : UInt64} {rest : List Value} (hd : decode c.code g.pc = .ok (.dadd, 1)) (hs : g.stack = .double y :: .double x :: rest) (hn : FP.dadd x y &&& 0x7fffffffffffffff ≤ 0x7ff0000000000000)
    (hr : Steps tb e below (T.setTop { g with pc := g.pc + 1, stack := .double (FP.dadd x y) :: rest }) target) : Steps tb e below (T.setTop g) target := by
  subst hg
  jvm_step h [hx, hd, Op.dadd.wp_number (e := e) (s := T) (f := g) h.top hs hn]
  exact hr
theorem own_dcmp {tb : Tables} [Ours tb] {e : Env} {below : List Frame} {T target : State} {m : MethodId} {c : Code} {g : JFrame} (h : At T m c below) (hx : tb.exec = Jvm.exec) (hg : g.method = m) {op : CmpOp} {x y : UInt64} {rest : List Value} (hd : decode c.code g.pc = .ok (.dcmp op, 1)) (hs : g.stack = .double y :: .double x :: rest) {k : Int32} (hk : cmpValue (FP.dcmp x y) op = k)
    (hr : Steps tb e below (T.setTop { g with pc := g.pc + 1, stack := .int k :: rest }) target) : Steps tb e below (T.setTop g) target := by
  subst hg; subst hk
  jvm_step h [h.top, hx, hd, hs]
  exact hr
theorem own_dloadN {tb : Tables} [Ours tb] {e : Env} {below : List Frame} {T target : State} {m : MethodId} {c : Code} {g : JFrame} (h : At T m c below) (hx : tb.exec = Jvm.exec) (hg : g.method = m) {k : Fin 4} {v : UInt64} (hd : decode c.code g.pc = .ok (.dload_n k, 1)) (hl : g.locals[k.val]? = some (.val (.double v)))
    (hr : Steps tb e below (T.setTop { g with pc := g.pc + 1, stack := .double v :: g.stack }) target) : Steps tb e below (T.setTop g) target := by
  subst hg
  jvm_step h [h.top, hx, hd, hl]
  exact hr
theorem own_dload {tb : Tables} [Ours tb] {e : Env} {below : List Frame} {T target : State} {m : MethodId} {c : Code} {g : JFrame} (h : At T m c below) (hx : tb.exec = Jvm.exec) (hg : g.method = m) {k : Nat} {v : UInt64} (hd : decode c.code g.pc = .ok (.dload k, 2)) (hl : g.locals[k]? = some (.val (.double v)))
    (hr : Steps tb e below (T.setTop { g with pc := g.pc + 2, stack := .double v :: g.stack }) target) : Steps tb e below (T.setTop g) target := by
  subst hg
  jvm_step h [h.top, hx, hd, hl]
  exact hr
theorem own_dstore {tb : Tables} [Ours tb] {e : Env} {below : List Frame} {T target : State} {m : MethodId} {c : Code} {g : JFrame} (h : At T m c below) (hx : tb.exec = Jvm.exec) (hg : g.method = m) {k : Nat} {x : UInt64} {rest : List Value} {l' : Array Slot} (hd : decode c.code g.pc = .ok (.dstore k, 2)) (hs : g.stack = .double x :: rest) (hl : storeLocals g.locals k (.double x) = some l')
    (hr : Steps tb e below (T.setTop { g with pc := g.pc + 2, stack := rest, locals := l' }) target) : Steps tb e below (T.setTop g) target := by
  subst hg
  jvm_step h [h.top, hx, hd, hs, hl]
  exact hr
theorem own_dconst0 {tb : Tables} [Ours tb] {e : Env} {below : List Frame} {T target : State} {m : MethodId} {c : Code} {g : JFrame} (h : At T m c below) (hx : tb.exec = Jvm.exec) (hg : g.method = m) (hd : decode c.code g.pc = .ok (.dconst 0, 1))
    (hr : Steps tb e below (T.setTop { g with pc := g.pc + 1, stack := .double FP.dconst0 :: g.stack }) target) : Steps tb e below (T.setTop g) target := by
  subst hg
  jvm_step h [h.top, hx, hd]
  exact hr
theorem own_dconst1 {tb : Tables} [Ours tb] {e : Env} {below : List Frame} {T target : State} {m : MethodId} {c : Code} {g : JFrame} (h : At T m c below) (hx : tb.exec = Jvm.exec) (hg : g.method = m) (hd : decode c.code g.pc = .ok (.dconst 1, 1))
    (hr : Steps tb e below (T.setTop { g with pc := g.pc + 1, stack := .double FP.dconst1 :: g.stack }) target) : Steps tb e below (T.setTop g) target := by
  subst hg
  jvm_step h [h.top, hx, hd]
  exact hr
theorem own_whole_pos {A : Nat} {d : Jvm.FP.Core.Datum} (hA : 0 < A) (h : Jvm.FP.Core.Whole (A : Int) d) : ∃ c q, d = .fin false c q ∧ 0 < c ∧ c * 2 ^ q.toNat = A * 2 ^ (-q).toNat := by
  cases d with
  | nan => exact h.elim
  | inf s => exact h.elim
  | fin s c q =>
    have h' : Jvm.FP.Core.signed s (c * 2 ^ q.toNat) = (A : Int) * ((2 ^ (-q).toNat : Nat) : Int) := h
    have hp : 0 < A * 2 ^ (-q).toNat := Nat.mul_pos hA (Nat.two_pow_pos _)
    have e1 : (A : Int) * ((2 ^ (-q).toNat : Nat) : Int) = ((A * 2 ^ (-q).toNat : Nat) : Int) := (Int.natCast_mul _ _).symm
    rw [e1] at h'
    obtain ⟨N, hN⟩ : ∃ N, N = A * 2 ^ (-q).toNat := ⟨_, rfl⟩
    rw [← hN] at h' hp
    cases s with
    | true =>
      exfalso
      simp only [Jvm.FP.Core.signed, if_true] at h'
      omega
    | false =>
      have h2 : c * 2 ^ q.toNat = N := by
        simp only [Jvm.FP.Core.signed, Bool.false_eq_true, if_false] at h'
        omega
      refine ⟨c, q, rfl, Nat.pos_of_ne_zero fun z => ?_, h2.trans hN⟩
      rw [z, Nat.zero_mul] at h2
      omega
theorem own_pow_cancel {X Y : Nat} {q r : Int} (h : X * 2 ^ (q.toNat + (-r).toNat) = Y * 2 ^ ((-q).toNat + r.toNat)) : X * 2 ^ (q - r).toNat = Y * 2 ^ (r - q).toNat := by
  have e1 : q.toNat + (-r).toNat = (q - r).toNat + min (q.toNat + (-r).toNat) ((-q).toNat + r.toNat) := by omega
  have e2 : (-q).toNat + r.toNat = (r - q).toNat + min (q.toNat + (-r).toNat) ((-q).toNat + r.toNat) := by omega
  generalize min (q.toNat + (-r).toNat) ((-q).toNat + r.toNat) = t at e1 e2
  rw [e1, e2, Nat.pow_add, Nat.pow_add, ← Nat.mul_assoc, ← Nat.mul_assoc] at h
  exact Nat.eq_of_mul_eq_mul_right (Nat.two_pow_pos t) h
/-- the quotient of two whole numbers, as one rounding -/
theorem own_ratio {A B : Nat} {a b : UInt64} (hA : 0 < A) (hB : 0 < B) (ha : Jvm.FP.Core.DInt (A : Int) a) (hb : Jvm.FP.Core.DInt (B : Int) b) : Jvm.FP.Core.val64 (FP.ddiv a b) = Jvm.FP.Core.roundRatio Jvm.FP.Core.b64 false A B 0 := by
  obtain ⟨c, q, e1, hc, h1⟩ := own_whole_pos hA ha
  obtain ⟨d, r, e2, hd, h2⟩ := own_whole_pos hB hb
  have e := Jvm.FP.Core.val64_ddiv a b
  rw [e1, e2] at e
  refine e.trans ?_
  have hd0 : d ≠ 0 := Nat.pos_iff_ne_zero.mp hd
  show (if d = 0 then (if c = 0 then Jvm.FP.Core.Datum.nan else .inf (false != false)) else Jvm.FP.Core.roundRatio Jvm.FP.Core.b64 (false != false) c d (q - r)) = _
  rw [if_neg hd0]
  refine Jvm.FP.Core.roundRatio_congr hd hB ?_
  have k : (c * B) * 2 ^ (q - r).toNat = (A * d) * 2 ^ (r - q).toNat := own_pow_cancel (by
    rw [Nat.pow_add, Nat.pow_add]
    calc c * B * (2 ^ q.toNat * 2 ^ (-r).toNat) = (c * 2 ^ q.toNat) * (B * 2 ^ (-r).toNat) := by ac_rfl
      _ = (A * 2 ^ (-q).toNat) * (d * 2 ^ r.toNat) := by rw [h1, h2]
      _ = A * d * (2 ^ (-q).toNat * 2 ^ r.toNat) := by ac_rfl)
  rw [show q - r - 0 = q - r by omega, show (0 : Int) - (q - r) = r - q by omega]
  exact k
theorem own_not_nan {v : UInt64} (h : Jvm.FP.Core.val64 v ≠ .nan) : v &&& 0x7fffffffffffffff ≤ 0x7ff0000000000000 := by
  have q := (Jvm.FP.Core.ne_nan v).mp h
  rw [UInt64.le_iff_toNat_le, UInt64.toNat_and]
  have e : v.toNat &&& (0x7fffffffffffffff : UInt64).toNat = v.toNat % 2 ^ 63 := Nat.and_two_pow_sub_one_eq_mod _ 63
  rw [e]
  exact q
theorem own_cmp {x y : UInt64} (nx : Jvm.FP.Core.val64 x ≠ .nan) (ny : Jvm.FP.Core.val64 y ≠ .nan) : FP.dcmp x y = some (compare (Jvm.FP.Core.zval Jvm.FP.Core.b64 (Jvm.FP.Core.val64 x)) (Jvm.FP.Core.zval Jvm.FP.Core.b64 (Jvm.FP.Core.val64 y))) :=
  Jvm.FP.Core.order_zval Jvm.FP.Core.good_b64 (Jvm.FP.Core.val64_fits _) (Jvm.FP.Core.val64_fits _) nx ny
theorem own_zval_ratio (A B : Nat) : Jvm.FP.Core.zval Jvm.FP.Core.b64 (Jvm.FP.Core.roundRatio Jvm.FP.Core.b64 false A B 0) = (Jvm.FP.Core.zmag Jvm.FP.Core.b64 (Jvm.FP.Core.roundRatio Jvm.FP.Core.b64 false A B 0) : Int) := by
  unfold Jvm.FP.Core.zval
  rw [Jvm.FP.Core.sgn_roundRatio]
  rfl
theorem own_zero : Jvm.FP.Core.zval Jvm.FP.Core.b64 (Jvm.FP.Core.val64 FP.dconst0) = 0 := by decide +kernel
theorem own_zero_nan : Jvm.FP.Core.val64 FP.dconst0 ≠ .nan := by decide +kernel
theorem own_s0 (x : Int32) : x >>> ((0 : Int32) &&& 31) = x := by
  apply Int32.toBitVec_inj.mp
  simp
theorem own_l0 (x : Int32) : x <<< ((0 : Int32) &&& 31) = x := by
  apply Int32.toBitVec_inj.mp
  simp
theorem own_selP {Z : State} {a0 : Array Value} {C : String} {y : MethodName} (hs : (Cond.selects C y y).before a0 Z = true) (hp : (Cond.privateMethod y).before a0 Z = true) (hi : (Cond.instanceMethod y).before a0 Z = true) (hy : y.cls ≠ "java/lang/invoke/MethodHandle" ∧ y.cls ≠ "java/lang/invoke/VarHandle") : (Cond.selects y.cls y y).before a0 Z = true := by
  obtain ⟨mk, methM, hnamed, hmethM, -, -⟩ := Cond.instanceMethod_spec hi
  obtain ⟨kP, hk, hf⟩ := notFace_of_selects hs mk hnamed
  exact Jvm.Stand.selects_self_of_private (findClass_of_methodNamed hnamed) hk hf (Cond.privateMethod_at hp) hi hy
theorem d1_0 : decode jdk_29_method_69_code 0 = .ok (.iload_n 0, 1) := by decide +kernel
theorem d1_1 : decode jdk_29_method_69_code 1 = .ok (.iload_n 1, 1) := by decide +kernel
theorem d1_2 : decode jdk_29_method_69_code 2 = .ok (.if_icmp .gt 7, 3) := by decide +kernel
theorem d1_5 : decode jdk_29_method_69_code 5 = .ok (.iload_n 0, 1) := by decide +kernel
theorem d1_6 : decode jdk_29_method_69_code 6 = .ok (.goto 4, 3) := by decide +kernel
theorem d1_10 : decode jdk_29_method_69_code 10 = .ok (.ireturn, 1) := by decide +kernel
theorem ef_1 (m : MethodId) (x0 : Int32) (x1 : Int32) : entryFrame m #[(.int x0), (.int x1)] 2 = mkF m 0 #[.val (.int x0), .val (.int x1)] [] := by first | (simp [entryFrame, mkF, argsToLocals, Value.category]; done) | rfl
set_option maxRecDepth 65536 in
set_option maxHeartbeats 40000000 in
theorem r1a (l : Launch) (Z : State) (a0 : Array Value) (hw : ∀ d ∈ tables_1, d.before a0 Z = true) (ws : List Jvm.Cond) (p1 : Int32) (p2 : Int32) (h0 : Heap) (n0 : Nat) (Z0 : n0 ≤ h0.size) (hc2 : ¬ (p2 < p1)) :
    MetFree l (⟨"java/lang/Math", "min", "(II)I"⟩ : MethodName) (head1 (Jvm.Cond.code (⟨"java/lang/Math", "min", "(II)I"⟩ : MethodName) jdk_29_method_69_code 2 (some .int) :: ws) ({ frames := 0, cells := 0, slots := 0, locals := 0 } : Room)) (fun a U => a = #[(.int p1), (.int p2)] ∧ Z.Warmed39 U.vm ∧ U.heap = h0) (fun _ _ _ _ _ => True) (fun _ U o U' => ∃ v L, o = .returned v ∧ QR (some (.int p1)) h0 n0 v U'.heap L ∧ FrameEnd U o U' L ({ frames := 0, cells := 0, slots := 0, locals := 0 } : Room).cells ({ frames := 0, cells := 0, slots := 0, locals := 0 } : Room).slots) := by
  refine MetFree.of_bodySF (Jvm.Free.JP.mathPlain rfl (by decide +kernel)) hisR ?_
  intro p e s m args below meth c s₁ Bd hml0 hP hK
  obtain ⟨rfl, hZ, hh⟩ := hP
  have hx := Bd.exec
  have hby := Bd.bytes
  have hml : c.maxLocals = 2 := hml0
  have hown : s.vm.findClass "java/lang/Math" = some m.cls := findClass_of_methodNamed Bd.named
  have hnm := (name_of_methodNamed Bd.named Bd.method).1
  have X0 : Stand p l e ({ frames := 0, cells := 0, slots := 0, locals := 0 } : Room) s m #[(.int p1), (.int p2)] below meth c s₁ [] 0 0 := Stand.of_body Bd
  have e0 : s₁.heap = h0 := by rw [← hh, Bd.state]; rfl
  have N0 := Fr.nil n0
  have pre0 : ∀ t, Steps p.tables e below (s₁.setTop (mkF m 0 #[.val (.int p1), .val (.int p2)] [])) t → Steps p.tables e below (s₁.setTop (entryFrame m #[(.int p1), (.int p2)] 2)) t := fun t k => castTop (ef_1 m p1 p2) k
  obtain ⟨fs, hr, hrun, hended, hW, hsame⟩ := X0.leave (v := some (.int p1)) (fun h => by rw [Bd.returns] at h; cases h)
  refine ⟨_, _, pre0 _ ?_, hrun, hended, _, _, rfl, ?_, ⟨_, rfl⟩, hW, hsame.mono (by decide) (by decide)⟩
  · show Steps p.tables e below (s₁.setTop (mkF m 0 #[.val (.int p1), .val (.int p2)] [])) _
    refine XS.iloadN X0.here hx rfl (hb hby d1_0) rfl ?_
    show Steps p.tables e below (s₁.setTop (mkF m 1 #[.val (.int p1), .val (.int p2)] [(.int p1)])) _
    refine XS.iloadN X0.here hx rfl (hb hby d1_1) rfl ?_
    show Steps p.tables e below (s₁.setTop (mkF m 2 #[.val (.int p1), .val (.int p2)] [(.int p2), (.int p1)])) _
    refine XS.icmpNo X0.here hx rfl (hb hby d1_2) rfl (flt hc2).2.2.1 ?_
    show Steps p.tables e below (s₁.setTop (mkF m 5 #[.val (.int p1), .val (.int p2)] [])) _
    refine XS.iloadN X0.here hx rfl (hb hby d1_5) rfl ?_
    show Steps p.tables e below (s₁.setTop (mkF m 6 #[.val (.int p1), .val (.int p2)] [(.int p1)])) _
    refine XS.goto X0.here hx rfl (pc0 := 6) (pc' := 10) rfl (hb hby d1_6) (by decide) (by decide) ?_
    show Steps p.tables e below (s₁.setTop (mkF m 10 #[.val (.int p1), .val (.int p2)] [(.int p1)])) _
    exact retI X0 hx Bd.returns (hb hby d1_10) hr
  · show QR (some (.int p1)) h0 n0 _ s₁.heap _
    rw [e0]
    exact ⟨rfl, N0, rfl⟩
theorem d1_9 : decode jdk_29_method_69_code 9 = .ok (.iload_n 1, 1) := by decide +kernel
set_option maxRecDepth 65536 in
set_option maxHeartbeats 40000000 in
theorem r1b (l : Launch) (Z : State) (a0 : Array Value) (hw : ∀ d ∈ tables_1, d.before a0 Z = true) (ws : List Jvm.Cond) (p1 : Int32) (p2 : Int32) (h0 : Heap) (n0 : Nat) (Z0 : n0 ≤ h0.size) (hc2 : p2 < p1) :
    MetFree l (⟨"java/lang/Math", "min", "(II)I"⟩ : MethodName) (head1 (Jvm.Cond.code (⟨"java/lang/Math", "min", "(II)I"⟩ : MethodName) jdk_29_method_69_code 2 (some .int) :: ws) ({ frames := 0, cells := 0, slots := 0, locals := 0 } : Room)) (fun a U => a = #[(.int p1), (.int p2)] ∧ Z.Warmed39 U.vm ∧ U.heap = h0) (fun _ _ _ _ _ => True) (fun _ U o U' => ∃ v L, o = .returned v ∧ QR (some (.int p2)) h0 n0 v U'.heap L ∧ FrameEnd U o U' L ({ frames := 0, cells := 0, slots := 0, locals := 0 } : Room).cells ({ frames := 0, cells := 0, slots := 0, locals := 0 } : Room).slots) := by
  refine MetFree.of_bodySF (Jvm.Free.JP.mathPlain rfl (by decide +kernel)) hisR ?_
  intro p e s m args below meth c s₁ Bd hml0 hP hK
  obtain ⟨rfl, hZ, hh⟩ := hP
  have hx := Bd.exec
  have hby := Bd.bytes
  have hml : c.maxLocals = 2 := hml0
  have hown : s.vm.findClass "java/lang/Math" = some m.cls := findClass_of_methodNamed Bd.named
  have hnm := (name_of_methodNamed Bd.named Bd.method).1
  have X0 : Stand p l e ({ frames := 0, cells := 0, slots := 0, locals := 0 } : Room) s m #[(.int p1), (.int p2)] below meth c s₁ [] 0 0 := Stand.of_body Bd
  have e0 : s₁.heap = h0 := by rw [← hh, Bd.state]; rfl
  have N0 := Fr.nil n0
  have pre0 : ∀ t, Steps p.tables e below (s₁.setTop (mkF m 0 #[.val (.int p1), .val (.int p2)] [])) t → Steps p.tables e below (s₁.setTop (entryFrame m #[(.int p1), (.int p2)] 2)) t := fun t k => castTop (ef_1 m p1 p2) k
  obtain ⟨fs, hr, hrun, hended, hW, hsame⟩ := X0.leave (v := some (.int p2)) (fun h => by rw [Bd.returns] at h; cases h)
  refine ⟨_, _, pre0 _ ?_, hrun, hended, _, _, rfl, ?_, ⟨_, rfl⟩, hW, hsame.mono (by decide) (by decide)⟩
  · show Steps p.tables e below (s₁.setTop (mkF m 0 #[.val (.int p1), .val (.int p2)] [])) _
    refine XS.iloadN X0.here hx rfl (hb hby d1_0) rfl ?_
    show Steps p.tables e below (s₁.setTop (mkF m 1 #[.val (.int p1), .val (.int p2)] [(.int p1)])) _
    refine XS.iloadN X0.here hx rfl (hb hby d1_1) rfl ?_
    show Steps p.tables e below (s₁.setTop (mkF m 2 #[.val (.int p1), .val (.int p2)] [(.int p2), (.int p1)])) _
    refine XS.icmpYes X0.here hx rfl (pc0 := 2) (pc' := 9) rfl (hb hby d1_2) rfl (tlt hc2).2.2.1 (by decide) (by decide) ?_
    show Steps p.tables e below (s₁.setTop (mkF m 9 #[.val (.int p1), .val (.int p2)] [])) _
    refine XS.iloadN X0.here hx rfl (hb hby d1_9) rfl ?_
    show Steps p.tables e below (s₁.setTop (mkF m 10 #[.val (.int p1), .val (.int p2)] [(.int p2)])) _
    exact retI X0 hx Bd.returns (hb hby d1_10) hr
  · show QR (some (.int p2)) h0 n0 _ s₁.heap _
    rw [e0]
    exact ⟨rfl, N0, rfl⟩
theorem d2_0 : decode jdk_29_method_65_code 0 = .ok (.iload_n 0, 1) := by decide +kernel
theorem d2_1 : decode jdk_29_method_65_code 1 = .ok (.iload_n 1, 1) := by decide +kernel
theorem d2_2 : decode jdk_29_method_65_code 2 = .ok (.if_icmp .lt 7, 3) := by decide +kernel
theorem d2_5 : decode jdk_29_method_65_code 5 = .ok (.iload_n 0, 1) := by decide +kernel
theorem d2_6 : decode jdk_29_method_65_code 6 = .ok (.goto 4, 3) := by decide +kernel
theorem d2_10 : decode jdk_29_method_65_code 10 = .ok (.ireturn, 1) := by decide +kernel
theorem ef_2 (m : MethodId) (x0 : Int32) (x1 : Int32) : entryFrame m #[(.int x0), (.int x1)] 2 = mkF m 0 #[.val (.int x0), .val (.int x1)] [] := by first | (simp [entryFrame, mkF, argsToLocals, Value.category]; done) | rfl
set_option maxRecDepth 65536 in
set_option maxHeartbeats 40000000 in
theorem r2a (l : Launch) (Z : State) (a0 : Array Value) (hw : ∀ d ∈ tables_1, d.before a0 Z = true) (ws : List Jvm.Cond) (p1 : Int32) (p2 : Int32) (h0 : Heap) (n0 : Nat) (Z0 : n0 ≤ h0.size) (hc2 : ¬ (p1 < p2)) :
    MetFree l (⟨"java/lang/Math", "max", "(II)I"⟩ : MethodName) (head1 (Jvm.Cond.code (⟨"java/lang/Math", "max", "(II)I"⟩ : MethodName) jdk_29_method_65_code 2 (some .int) :: ws) ({ frames := 0, cells := 0, slots := 0, locals := 0 } : Room)) (fun a U => a = #[(.int p1), (.int p2)] ∧ Z.Warmed39 U.vm ∧ U.heap = h0) (fun _ _ _ _ _ => True) (fun _ U o U' => ∃ v L, o = .returned v ∧ QR (some (.int p1)) h0 n0 v U'.heap L ∧ FrameEnd U o U' L ({ frames := 0, cells := 0, slots := 0, locals := 0 } : Room).cells ({ frames := 0, cells := 0, slots := 0, locals := 0 } : Room).slots) := by
  refine MetFree.of_bodySF (Jvm.Free.JP.mathPlain rfl (by decide +kernel)) hisR ?_
  intro p e s m args below meth c s₁ Bd hml0 hP hK
  obtain ⟨rfl, hZ, hh⟩ := hP
  have hx := Bd.exec
  have hby := Bd.bytes
  have hml : c.maxLocals = 2 := hml0
  have hown : s.vm.findClass "java/lang/Math" = some m.cls := findClass_of_methodNamed Bd.named
  have hnm := (name_of_methodNamed Bd.named Bd.method).1
  have X0 : Stand p l e ({ frames := 0, cells := 0, slots := 0, locals := 0 } : Room) s m #[(.int p1), (.int p2)] below meth c s₁ [] 0 0 := Stand.of_body Bd
  have e0 : s₁.heap = h0 := by rw [← hh, Bd.state]; rfl
  have N0 := Fr.nil n0
  have pre0 : ∀ t, Steps p.tables e below (s₁.setTop (mkF m 0 #[.val (.int p1), .val (.int p2)] [])) t → Steps p.tables e below (s₁.setTop (entryFrame m #[(.int p1), (.int p2)] 2)) t := fun t k => castTop (ef_2 m p1 p2) k
  obtain ⟨fs, hr, hrun, hended, hW, hsame⟩ := X0.leave (v := some (.int p1)) (fun h => by rw [Bd.returns] at h; cases h)
  refine ⟨_, _, pre0 _ ?_, hrun, hended, _, _, rfl, ?_, ⟨_, rfl⟩, hW, hsame.mono (by decide) (by decide)⟩
  · show Steps p.tables e below (s₁.setTop (mkF m 0 #[.val (.int p1), .val (.int p2)] [])) _
    refine XS.iloadN X0.here hx rfl (hb hby d2_0) rfl ?_
    show Steps p.tables e below (s₁.setTop (mkF m 1 #[.val (.int p1), .val (.int p2)] [(.int p1)])) _
    refine XS.iloadN X0.here hx rfl (hb hby d2_1) rfl ?_
    show Steps p.tables e below (s₁.setTop (mkF m 2 #[.val (.int p1), .val (.int p2)] [(.int p2), (.int p1)])) _
    refine XS.icmpNo X0.here hx rfl (hb hby d2_2) rfl (flt hc2).1 ?_
    show Steps p.tables e below (s₁.setTop (mkF m 5 #[.val (.int p1), .val (.int p2)] [])) _
    refine XS.iloadN X0.here hx rfl (hb hby d2_5) rfl ?_
    show Steps p.tables e below (s₁.setTop (mkF m 6 #[.val (.int p1), .val (.int p2)] [(.int p1)])) _
    refine XS.goto X0.here hx rfl (pc0 := 6) (pc' := 10) rfl (hb hby d2_6) (by decide) (by decide) ?_
    show Steps p.tables e below (s₁.setTop (mkF m 10 #[.val (.int p1), .val (.int p2)] [(.int p1)])) _
    exact retI X0 hx Bd.returns (hb hby d2_10) hr
  · show QR (some (.int p1)) h0 n0 _ s₁.heap _
    rw [e0]
    exact ⟨rfl, N0, rfl⟩
theorem d2_9 : decode jdk_29_method_65_code 9 = .ok (.iload_n 1, 1) := by decide +kernel
set_option maxRecDepth 65536 in
set_option maxHeartbeats 40000000 in
theorem r2b (l : Launch) (Z : State) (a0 : Array Value) (hw : ∀ d ∈ tables_1, d.before a0 Z = true) (ws : List Jvm.Cond) (p1 : Int32) (p2 : Int32) (h0 : Heap) (n0 : Nat) (Z0 : n0 ≤ h0.size) (hc2 : p1 < p2) :
    MetFree l (⟨"java/lang/Math", "max", "(II)I"⟩ : MethodName) (head1 (Jvm.Cond.code (⟨"java/lang/Math", "max", "(II)I"⟩ : MethodName) jdk_29_method_65_code 2 (some .int) :: ws) ({ frames := 0, cells := 0, slots := 0, locals := 0 } : Room)) (fun a U => a = #[(.int p1), (.int p2)] ∧ Z.Warmed39 U.vm ∧ U.heap = h0) (fun _ _ _ _ _ => True) (fun _ U o U' => ∃ v L, o = .returned v ∧ QR (some (.int p2)) h0 n0 v U'.heap L ∧ FrameEnd U o U' L ({ frames := 0, cells := 0, slots := 0, locals := 0 } : Room).cells ({ frames := 0, cells := 0, slots := 0, locals := 0 } : Room).slots) := by
  refine MetFree.of_bodySF (Jvm.Free.JP.mathPlain rfl (by decide +kernel)) hisR ?_
  intro p e s m args below meth c s₁ Bd hml0 hP hK
  obtain ⟨rfl, hZ, hh⟩ := hP
  have hx := Bd.exec
  have hby := Bd.bytes
  have hml : c.maxLocals = 2 := hml0
  have hown : s.vm.findClass "java/lang/Math" = some m.cls := findClass_of_methodNamed Bd.named
  have hnm := (name_of_methodNamed Bd.named Bd.method).1
  have X0 : Stand p l e ({ frames := 0, cells := 0, slots := 0, locals := 0 } : Room) s m #[(.int p1), (.int p2)] below meth c s₁ [] 0 0 := Stand.of_body Bd
  have e0 : s₁.heap = h0 := by rw [← hh, Bd.state]; rfl
  have N0 := Fr.nil n0
  have pre0 : ∀ t, Steps p.tables e below (s₁.setTop (mkF m 0 #[.val (.int p1), .val (.int p2)] [])) t → Steps p.tables e below (s₁.setTop (entryFrame m #[(.int p1), (.int p2)] 2)) t := fun t k => castTop (ef_2 m p1 p2) k
  obtain ⟨fs, hr, hrun, hended, hW, hsame⟩ := X0.leave (v := some (.int p2)) (fun h => by rw [Bd.returns] at h; cases h)
  refine ⟨_, _, pre0 _ ?_, hrun, hended, _, _, rfl, ?_, ⟨_, rfl⟩, hW, hsame.mono (by decide) (by decide)⟩
  · show Steps p.tables e below (s₁.setTop (mkF m 0 #[.val (.int p1), .val (.int p2)] [])) _
    refine XS.iloadN X0.here hx rfl (hb hby d2_0) rfl ?_
    show Steps p.tables e below (s₁.setTop (mkF m 1 #[.val (.int p1), .val (.int p2)] [(.int p1)])) _
    refine XS.iloadN X0.here hx rfl (hb hby d2_1) rfl ?_
    show Steps p.tables e below (s₁.setTop (mkF m 2 #[.val (.int p1), .val (.int p2)] [(.int p2), (.int p1)])) _
    refine XS.icmpYes X0.here hx rfl (pc0 := 2) (pc' := 9) rfl (hb hby d2_2) rfl (tlt hc2).1 (by decide) (by decide) ?_
    show Steps p.tables e below (s₁.setTop (mkF m 9 #[.val (.int p1), .val (.int p2)] [])) _
    refine XS.iloadN X0.here hx rfl (hb hby d2_9) rfl ?_
    show Steps p.tables e below (s₁.setTop (mkF m 10 #[.val (.int p1), .val (.int p2)] [(.int p2)])) _
    exact retI X0 hx Bd.returns (hb hby d2_10) hr
  · show QR (some (.int p2)) h0 n0 _ s₁.heap _
    rw [e0]
    exact ⟨rfl, N0, rfl⟩
def own_min (x y : Int32) : Int32 := if y < x then y else x
def own_max (x y : Int32) : Int32 := if x < y then y else x
theorem r1 (l : Launch) (Z : State) (a0 : Array Value) (hw : ∀ d ∈ tables_1, d.before a0 Z = true) (ws : List Jvm.Cond) (p1 p2 : Int32) (h0 : Heap) (n0 : Nat) (Z0 : n0 ≤ h0.size) :
    MetFree l (⟨"java/lang/Math", "min", "(II)I"⟩ : MethodName) (head1 (Jvm.Cond.code (⟨"java/lang/Math", "min", "(II)I"⟩ : MethodName) jdk_29_method_69_code 2 (some .int) :: ws) ({ frames := 0, cells := 0, slots := 0, locals := 0 } : Room)) (fun a U => a = #[(.int p1), (.int p2)] ∧ Z.Warmed39 U.vm ∧ U.heap = h0) (fun _ _ _ _ _ => True) (fun _ U o U' => ∃ v L, o = .returned v ∧ QR (some (.int (own_min p1 p2))) h0 n0 v U'.heap L ∧ FrameEnd U o U' L ({ frames := 0, cells := 0, slots := 0, locals := 0 } : Room).cells ({ frames := 0, cells := 0, slots := 0, locals := 0 } : Room).slots) := by
  by_cases h : p2 < p1
  · rw [show own_min p1 p2 = p2 from if_pos h]; exact r1b l Z a0 hw ws p1 p2 h0 n0 Z0 h
  · rw [show own_min p1 p2 = p1 from if_neg h]; exact r1a l Z a0 hw ws p1 p2 h0 n0 Z0 h
theorem r2 (l : Launch) (Z : State) (a0 : Array Value) (hw : ∀ d ∈ tables_1, d.before a0 Z = true) (ws : List Jvm.Cond) (p1 p2 : Int32) (h0 : Heap) (n0 : Nat) (Z0 : n0 ≤ h0.size) :
    MetFree l (⟨"java/lang/Math", "max", "(II)I"⟩ : MethodName) (head1 (Jvm.Cond.code (⟨"java/lang/Math", "max", "(II)I"⟩ : MethodName) jdk_29_method_65_code 2 (some .int) :: ws) ({ frames := 0, cells := 0, slots := 0, locals := 0 } : Room)) (fun a U => a = #[(.int p1), (.int p2)] ∧ Z.Warmed39 U.vm ∧ U.heap = h0) (fun _ _ _ _ _ => True) (fun _ U o U' => ∃ v L, o = .returned v ∧ QR (some (.int (own_max p1 p2))) h0 n0 v U'.heap L ∧ FrameEnd U o U' L ({ frames := 0, cells := 0, slots := 0, locals := 0 } : Room).cells ({ frames := 0, cells := 0, slots := 0, locals := 0 } : Room).slots) := by
  by_cases h : p1 < p2
  · rw [show own_max p1 p2 = p2 from if_pos h]; exact r2b l Z a0 hw ws p1 p2 h0 n0 Z0 h
  · rw [show own_max p1 p2 = p1 from if_neg h]; exact r2a l Z a0 hw ws p1 p2 h0 n0 Z0 h
theorem d4_0 : decode jdk_30_method_1_code 0 = .ok (.aload_n 0, 1) := by decide +kernel
theorem d4_1 : decode jdk_30_method_1_code 1 = .ok (.invokespecial 1, 3) := by decide +kernel
theorem d4_4 : decode jdk_30_method_1_code 4 = .ok (.return_, 1) := by decide +kernel
theorem pn_4 : plainName "java/lang/Record" = true := by first | (simp [plainName, overriddenIn]; done) | decide +kernel
theorem ef_4 (m : MethodId) (x0 : Addr) : entryFrame m #[(.ref x0)] 1 = mkF m 0 #[.val (.ref x0)] [] := by first | (simp [entryFrame, mkF, argsToLocals, Value.category]; done) | rfl
set_option maxRecDepth 65536 in
set_option maxHeartbeats 40000000 in
theorem r4 (l : Launch) (Z : State) (a0 : Array Value) (hw : ∀ d ∈ tables_1, d.before a0 Z = true) (ws : List Jvm.Cond) (a1 : Addr) (h0 : Heap) (n0 : Nat) (Z0 : n0 ≤ h0.size) :
    MetFree l (⟨"java/lang/Record", "<init>", "()V"⟩ : MethodName) (head1 (Jvm.Cond.code (⟨"java/lang/Record", "<init>", "()V"⟩ : MethodName) jdk_30_method_1_code 1 none :: ws) ({ frames := 1, cells := 0, slots := 0, locals := 12 } : Room)) (fun a U => a = #[(.ref a1)] ∧ Z.Warmed39 U.vm ∧ U.heap = h0) (fun _ _ _ _ _ => True) (fun _ U o U' => ∃ v L, o = .returned v ∧ QR (none) h0 n0 v U'.heap L ∧ FrameEnd U o U' L ({ frames := 1, cells := 0, slots := 0, locals := 12 } : Room).cells ({ frames := 1, cells := 0, slots := 0, locals := 12 } : Room).slots) := by
  refine MetFree.of_bodySF (plainFor_of_name pn_4) hisR ?_
  intro p e s m args below meth c s₁ Bd hml0 hP hK
  obtain ⟨rfl, hZ, hh⟩ := hP
  have hx := Bd.exec
  have hby := Bd.bytes
  have hml : c.maxLocals = 1 := hml0
  have hown : s.vm.findClass "java/lang/Record" = some m.cls := findClass_of_methodNamed Bd.named
  have hnm := (name_of_methodNamed Bd.named Bd.method).1
  have X0 : Stand p l e ({ frames := 1, cells := 0, slots := 0, locals := 12 } : Room) s m #[(.ref a1)] below meth c s₁ [] 0 0 := Stand.of_body Bd
  have e0 : s₁.heap = h0 := by rw [← hh, Bd.state]; rfl
  have N0 := Fr.nil n0
  have pre0 : ∀ t, Steps p.tables e below (s₁.setTop (mkF m 0 #[.val (.ref a1)] [])) t → Steps p.tables e below (s₁.setTop (entryFrame m #[(.ref a1)] 1)) t := fun t k => castTop (ef_4 m a1) k
  obtain ⟨T2, X2, e2, st2⟩ := initO X0 hx hZ hown (hw _ (List.mem_of_getElem? (i := 20) rfl)) (hw _ (List.mem_of_getElem? (i := 21) rfl)) (hw _ (List.mem_of_getElem? (i := 22) rfl)) e0 (g := (mkF m 1 #[.val (.ref a1)] [(.ref a1)])) rfl (by rw [hml]; rfl) rfl (hb hby d4_1) (by decide) (W := 0) (by show 2 * 0 + _ ≤ _; exact Nat.le_of_eq rfl) (by decide)
  obtain ⟨fs, hr, hrun, hended, hW, hsame⟩ := X2.leave (v := none) (fun _ => rfl)
  refine ⟨_, _, pre0 _ ?_, hrun, hended, _, _, rfl, ?_, ⟨_, rfl⟩, hW, hsame.mono (by decide) (by decide)⟩
  · show Steps p.tables e below (s₁.setTop (mkF m 0 #[.val (.ref a1)] [])) _
    refine XS.aloadN X0.here hx rfl (hb hby d4_0) rfl rfl ?_
    show Steps p.tables e below (s₁.setTop (mkF m 1 #[.val (.ref a1)] [(.ref a1)])) _
    refine st2 _ ?_
    show Steps p.tables e below (T2.setTop (mkF m 4 #[.val (.ref a1)] [])) _
    exact X2.returnOut hx Bd.returns (hb hby d4_4) hr
  · show QR (none) h0 n0 _ T2.heap _
    rw [e2]
    exact ⟨rfl, N0, rfl⟩
def own_Str (Z : State) (h : Heap) (o : Addr) (n : Nat) : Prop := Exa Z h o "java/lang/String" ∧ Fld Z h o "java/lang/String" "coder" "B" (.int 0) ∧ ∃ (t : Addr) (k : ClassId) (vs : List Value), Fld Z h o "java/lang/String" "value" "[B" (.ref t) ∧ Arv Z h t k .byte (Int32.ofNat n) vs (.int 0)
def own_SBv (Z : State) (h : Heap) (b : Addr) (n c : Nat) (t : Addr) : Prop := Exa Z h b "java/lang/StringBuilder" ∧ Fld Z h b "java/lang/AbstractStringBuilder" "coder" "B" (.int 0) ∧ Fld Z h b "java/lang/AbstractStringBuilder" "count" "I" (.int (Int32.ofNat n)) ∧ Fld Z h b "java/lang/AbstractStringBuilder" "value" "[B" (.ref t) ∧ ∃ (k : ClassId) (vs : List Value), Arv Z h t k .byte (Int32.ofNat c) vs (.int 0) ∧ vs.length = c
def own_CS (Z : State) (h : Heap) : Prop := ∃ z : Int32, Sta Z h "java/lang/String" "COMPACT_STRINGS" "Z" (.int z) ∧ ¬ z = 0
theorem own_CS.ext {Z : State} {h h' : Heap} (S : own_CS Z h) (E : Ext h h') : own_CS Z h' := by
  obtain ⟨z, S1, hz⟩ := S
  exact ⟨z, S1.ext E, hz⟩
theorem own_nf {s : State} {a0 : Array Value} {y y' : MethodName} (hn : NotFace s y) (hi : (Cond.instanceMethod y).before a0 s = true) (hc : y'.cls = y.cls) : NotFace s y' := by
  obtain ⟨mk, methM, hnamed, hmethM, -, -⟩ := Cond.instanceMethod_spec hi
  intro r0 h0
  have e : r0.cls = mk.cls := Option.some.inj ((findClass_of_methodNamed h0).symm.trans (by rw [hc]; exact findClass_of_methodNamed hnamed))
  rw [e]
  exact hn mk hnamed
theorem own_same {Z : State} {a0 : Array Value} {y : MethodName} (hn : NotFace Z y) (hi : (Cond.instanceMethod y).before a0 Z = true) (hy : y.cls ≠ "java/lang/invoke/MethodHandle" ∧ y.cls ≠ "java/lang/invoke/VarHandle") : (Cond.sameMethod y.cls y.cls y.name y.desc).before a0 Z = true := by
  obtain ⟨mk, methM, hnamed, hmethM, -, -⟩ := Cond.instanceMethod_spec hi
  obtain ⟨k, hk, hf⟩ := hn mk hnamed
  have hfound : Z.methodFound? y.cls y.name y.desc = some mk := State.methodFound?_of_named hnamed hy
  have hc := findClass_of_methodNamed hnamed
  simp only [Cond.before, Cond.holds, Cond.value, hc, hfound, hnamed, hk]
  simp; exact hf
theorem d12_0 : decode jdk_42_method_152_code 0 = .ok (.getstatic 38, 3) := by decide +kernel
theorem d12_3 : decode jdk_42_method_152_code 3 = .ok (.ifCond .eq 10, 3) := by decide +kernel
theorem d12_6 : decode jdk_42_method_152_code 6 = .ok (.aload_n 0, 1) := by decide +kernel
theorem d12_7 : decode jdk_42_method_152_code 7 = .ok (.getfield 15, 3) := by decide +kernel
theorem d12_10 : decode jdk_42_method_152_code 10 = .ok (.goto 4, 3) := by decide +kernel
theorem d12_14 : decode jdk_42_method_152_code 14 = .ok (.ireturn, 1) := by decide +kernel
theorem pn_12 : plainName "java/lang/String" = true := by first | (simp [plainName, overriddenIn]; done) | decide +kernel
theorem ef_12 (m : MethodId) (x0 : Addr) : entryFrame m #[(.ref x0)] 1 = mkF m 0 #[.val (.ref x0)] [] := by first | (simp [entryFrame, mkF, argsToLocals, Value.category]; done) | rfl
set_option maxRecDepth 65536 in
set_option maxHeartbeats 40000000 in
theorem r12 (l : Launch) (Z : State) (a0 : Array Value) (hw : ∀ d ∈ tables_1, d.before a0 Z = true) (ws : List Jvm.Cond) (a1 : Addr) (w2 : Int32) (h0 : Heap) (n0 : Nat) (Z0 : n0 ≤ h0.size) (S_COMPACT_STRINGS : Sta Z h0 "java/lang/String" "COMPACT_STRINGS" "Z" (.int w2)) (F_coder_a1 : Fld Z h0 a1 "java/lang/String" "coder" "B" (.int (0 : Int32))) (hc3 : ¬ (w2 = (0 : Int32))) :
    MetFree l (⟨"java/lang/String", "coder", "()B"⟩ : MethodName) (head1 (Jvm.Cond.code (⟨"java/lang/String", "coder", "()B"⟩ : MethodName) jdk_42_method_152_code 1 (some .byte) :: ws) ({ frames := 0, cells := 0, slots := 0, locals := 0 } : Room)) (fun a U => a = #[(.ref a1)] ∧ Z.Warmed39 U.vm ∧ U.heap = h0) (fun _ _ _ _ _ => True) (fun _ U o U' => ∃ v L, o = .returned v ∧ QR (some (.int (0 : Int32))) h0 n0 v U'.heap L ∧ FrameEnd U o U' L ({ frames := 0, cells := 0, slots := 0, locals := 0 } : Room).cells ({ frames := 0, cells := 0, slots := 0, locals := 0 } : Room).slots) := by
  refine MetFree.of_bodySF (plainFor_of_name pn_12) hisR ?_
  intro p e s m args below meth c s₁ Bd hml0 hP hK
  obtain ⟨rfl, hZ, hh⟩ := hP
  have hx := Bd.exec
  have hby := Bd.bytes
  have hml : c.maxLocals = 1 := hml0
  have hown : s.vm.findClass "java/lang/String" = some m.cls := findClass_of_methodNamed Bd.named
  have hnm := (name_of_methodNamed Bd.named Bd.method).1
  have X0 : Stand p l e ({ frames := 0, cells := 0, slots := 0, locals := 0 } : Room) s m #[(.ref a1)] below meth c s₁ [] 0 0 := Stand.of_body Bd
  have e0 : s₁.heap = h0 := by rw [← hh, Bd.state]; rfl
  have N0 := Fr.nil n0
  have pre0 : ∀ t, Steps p.tables e below (s₁.setTop (mkF m 0 #[.val (.ref a1)] [])) t → Steps p.tables e below (s₁.setTop (entryFrame m #[(.ref a1)] 1)) t := fun t k => castTop (ef_12 m a1) k
  obtain ⟨T3, X3, e3, st3⟩ := getS2 X0 hx hZ hown (host := "") (Or.inl (hw _ (List.mem_of_getElem? (i := 73) rfl))) Via.refl e0 S_COMPACT_STRINGS (g := (mkF m 0 #[.val (.ref a1)] [])) rfl (hb hby d12_0)
  obtain ⟨T5, X5, e5, st5⟩ := getF X3 hx hZ hown (host := "") (Or.inl (hw _ (List.mem_of_getElem? (i := 74) rfl))) Via.refl e3 F_coder_a1 (g := (mkF m 7 #[.val (.ref a1)] [(.ref a1)])) rfl rfl (hb hby d12_7)
  obtain ⟨fs, hr, hrun, hended, hW, hsame⟩ := X5.leave (v := some (.int (0 : Int32))) (fun h => by rw [Bd.returns] at h; cases h)
  refine ⟨_, _, pre0 _ ?_, hrun, hended, _, _, rfl, ?_, ⟨_, rfl⟩, hW, hsame.mono (by decide) (by decide)⟩
  · show Steps p.tables e below (s₁.setTop (mkF m 0 #[.val (.ref a1)] [])) _
    refine st3 _ ?_
    show Steps p.tables e below (T3.setTop (mkF m 3 #[.val (.ref a1)] [(.int w2)])) _
    refine XS.ifNo X3.here hx rfl (hb hby d12_3) rfl ((if0 _ _).trans (feq hc3).1) ?_
    show Steps p.tables e below (T3.setTop (mkF m 6 #[.val (.ref a1)] [])) _
    refine XS.aloadN X3.here hx rfl (hb hby d12_6) rfl rfl ?_
    show Steps p.tables e below (T3.setTop (mkF m 7 #[.val (.ref a1)] [(.ref a1)])) _
    refine st5 _ ?_
    show Steps p.tables e below (T5.setTop (mkF m 10 #[.val (.ref a1)] [(.int (0 : Int32))])) _
    refine XS.goto X5.here hx rfl (pc0 := 10) (pc' := 14) rfl (hb hby d12_10) (by decide) (by decide) ?_
    show Steps p.tables e below (T5.setTop (mkF m 14 #[.val (.ref a1)] [(.int (0 : Int32))])) _
    exact retN X5 hx (t := .byte) Bd.returns (by simp) (hb hby d12_14) hr
  · show QR (some (.int (0 : Int32))) h0 n0 _ T5.heap _
    rw [e5]
    exact ⟨rfl, N0, rfl⟩
theorem d11_0 : decode jdk_42_method_54_code 0 = .ok (.aload_n 0, 1) := by decide +kernel
theorem d11_1 : decode jdk_42_method_54_code 1 = .ok (.getfield 9, 3) := by decide +kernel
theorem d11_4 : decode jdk_42_method_54_code 4 = .ok (.arraylength, 1) := by decide +kernel
theorem d11_5 : decode jdk_42_method_54_code 5 = .ok (.aload_n 0, 1) := by decide +kernel
theorem d11_6 : decode jdk_42_method_54_code 6 = .ok (.invokevirtual 335, 3) := by decide +kernel
theorem d11_9 : decode jdk_42_method_54_code 9 = .ok (.ishr, 1) := by decide +kernel
theorem d11_10 : decode jdk_42_method_54_code 10 = .ok (.ireturn, 1) := by decide +kernel
theorem pn_11 : plainName "java/lang/String" = true := by first | (simp [plainName, overriddenIn]; done) | decide +kernel
theorem pd_11_8 : parseMethodDescriptor "()B" = some ⟨[], some .byte⟩ := by decide +kernel
theorem ef_11 (m : MethodId) (x0 : Addr) : entryFrame m #[(.ref x0)] 1 = mkF m 0 #[.val (.ref x0)] [] := by first | (simp [entryFrame, mkF, argsToLocals, Value.category]; done) | rfl
set_option maxRecDepth 65536 in
set_option maxHeartbeats 40000000 in
theorem r11 (l : Launch) (Z : State) (a0 : Array Value) (hw : ∀ d ∈ tables_1, d.before a0 Z = true) (ws : List Jvm.Cond) (a1 : Addr) (w2 : Addr) (cl_w2 : Cell) (z_w2 : Int32) (zc : Int32) (h0 : Heap) (n0 : Nat) (Z0 : n0 ≤ h0.size) (F_value_a1 : Fld Z h0 a1 "java/lang/String" "value" "[B" (.ref w2)) (Ar_w2 : Arr Z h0 w2 cl_w2 .byte) (S_w2 : cl_w2.slots.size = z_w2.toNatClampNeg) (N_w2 : ¬ z_w2 < 0) (E_a1 : Exa Z h0 a1 "java/lang/String") (SC : Sta Z h0 "java/lang/String" "COMPACT_STRINGS" "Z" (.int zc)) (hz : ¬ zc = 0) (FC : Fld Z h0 a1 "java/lang/String" "coder" "B" (.int 0)) :
    MetFree l (⟨"java/lang/String", "length", "()I"⟩ : MethodName) (head1 (Jvm.Cond.code (⟨"java/lang/String", "length", "()I"⟩ : MethodName) jdk_42_method_54_code 1 (some .int) :: ws) ({ frames := 1, cells := 0, slots := 0, locals := 13 } : Room)) (fun a U => a = #[(.ref a1)] ∧ Z.Warmed39 U.vm ∧ U.heap = h0) (fun _ _ _ _ _ => True) (fun _ U o U' => ∃ v L, o = .returned v ∧ QR (some (.int (z_w2 >>> ((0 : Int32) &&& 31)))) h0 n0 v U'.heap L ∧ FrameEnd U o U' L ({ frames := 1, cells := 0, slots := 0, locals := 13 } : Room).cells ({ frames := 1, cells := 0, slots := 0, locals := 13 } : Room).slots) := by
  refine MetFree.of_bodySF (plainFor_of_name pn_11) hisR ?_
  intro p e s m args below meth c s₁ Bd hml0 hP hK
  obtain ⟨rfl, hZ, hh⟩ := hP
  have hx := Bd.exec
  have hby := Bd.bytes
  have hml : c.maxLocals = 1 := hml0
  have hown : s.vm.findClass "java/lang/String" = some m.cls := findClass_of_methodNamed Bd.named
  have hnm := (name_of_methodNamed Bd.named Bd.method).1
  have X0 : Stand p l e ({ frames := 1, cells := 0, slots := 0, locals := 13 } : Room) s m #[(.ref a1)] below meth c s₁ [] 0 0 := Stand.of_body Bd
  have e0 : s₁.heap = h0 := by rw [← hh, Bd.state]; rfl
  have N0 := Fr.nil n0
  have pre0 : ∀ t, Steps p.tables e below (s₁.setTop (mkF m 0 #[.val (.ref a1)] [])) t → Steps p.tables e below (s₁.setTop (entryFrame m #[(.ref a1)] 1)) t := fun t k => castTop (ef_11 m a1) k
  obtain ⟨T3, X3, e3, st3⟩ := getF X0 hx hZ hown (host := "") (Or.inl (hw _ (List.mem_of_getElem? (i := 67) rfl))) Via.refl e0 F_value_a1 (g := (mkF m 1 #[.val (.ref a1)] [(.ref a1)])) rfl rfl (hb hby d11_1)
  obtain ⟨cq4, kq4, q4a, q4b, q4c⟩ := isOf hZ e3 E_a1
  obtain ⟨_, _, ⟨T4, L4, k4, n4⟩, -, X4, ⟨Lc4, hQ4, l4, y4, z4⟩, st4⟩ := X3.virtualBack hx (y := (⟨"java/lang/String", "coder", "()B"⟩ : MethodName)) (z := (⟨"java/lang/String", "coder", "()B"⟩ : MethodName)) hown (mvT hZ (hw _ (List.mem_of_getElem? (i := 68) rfl))) (mvT hZ (hw _ (List.mem_of_getElem? (i := 69) rfl))) (notFace_of_selects (args := #[]) (mvT hZ (hw _ (List.mem_of_getElem? (i := 71) rfl)))) (mvT hZ (hw _ (List.mem_of_getElem? (i := 71) rfl))) (mvT hZ (hw _ (List.mem_of_getElem? (i := 70) rfl))) (by decide) (backOf (W := 1) (r12 l Z a0 hw [] a1 zc h0 n0 Z0 SC FC hz) hZ (hw _ (List.mem_of_getElem? (i := 72) rfl)) (hw _ (List.mem_of_getElem? (i := 24) rfl)) (by decide) (by decide)) q4a q4c (g := (mkF m 6 #[.val (.ref a1)] [(.ref a1), (.int z_w2)])) rfl (by rw [hml]; rfl) (Steps.refl _) (argsL := []) (rest := [(.int z_w2)]) (lenOf pd_11_8 rfl) rfl (by show 2 * 0 + _ ≤ _; exact Nat.le_of_eq rfl) (hb hby d11_6) (fun _ _ => ⟨rfl, e3, (by decide : 0 + 0 ≤ _), (by decide : 0 + 0 ≤ _)⟩)
  dsimp only [Pt.U, Pt.locs, Pt.cells, Pt.slots] at X4 l4 y4 z4 st4 hQ4
  subst l4 y4 z4
  obtain ⟨rfl, N4q, e4⟩ := hQ4
  have N4 := Fr.app N0 N4q
  obtain ⟨fs, hr, hrun, hended, hW, hsame⟩ := X4.leave (v := some (.int (z_w2 >>> ((0 : Int32) &&& 31)))) (fun h => by rw [Bd.returns] at h; cases h)
  refine ⟨_, _, pre0 _ ?_, hrun, hended, _, _, rfl, ?_, ⟨_, rfl⟩, hW, hsame.mono (by decide) (by decide)⟩
  · show Steps p.tables e below (s₁.setTop (mkF m 0 #[.val (.ref a1)] [])) _
    refine XS.aloadN X0.here hx rfl (hb hby d11_0) rfl rfl ?_
    show Steps p.tables e below (s₁.setTop (mkF m 1 #[.val (.ref a1)] [(.ref a1)])) _
    refine st3 _ ?_
    show Steps p.tables e below (T3.setTop (mkF m 4 #[.val (.ref a1)] [(.ref w2)])) _
    refine X3.arraylength hx (by rw [e3]; exact Ar_w2.1) (State.isArrayOf_alike hZ.alike Ar_w2.2.1) (g := (mkF m 4 #[.val (.ref a1)] [(.ref w2)])) rfl rfl (hb hby d11_4) _ ?_
    rw [len_of S_w2 N_w2]
    show Steps p.tables e below (T3.setTop (mkF m 5 #[.val (.ref a1)] [(.int z_w2)])) _
    refine XS.aloadN X3.here hx rfl (hb hby d11_5) rfl rfl ?_
    show Steps p.tables e below (T3.setTop (mkF m 6 #[.val (.ref a1)] [(.ref a1), (.int z_w2)])) _
    refine st4.trans ?_
    show Steps p.tables e below (T4.setTop (mkF m 9 #[.val (.ref a1)] [(.int (0 : Int32)), (.int z_w2)])) _
    refine XS.ishr X4.here hx rfl (hb hby d11_9) rfl ?_
    show Steps p.tables e below (T4.setTop (mkF m 10 #[.val (.ref a1)] [(.int (z_w2 >>> ((0 : Int32) &&& 31)))])) _
    exact retI X4 hx Bd.returns (hb hby d11_10) hr
  · show QR (some (.int (z_w2 >>> ((0 : Int32) &&& 31)))) h0 n0 _ T4.heap _
    rw [e4]
    exact ⟨rfl, N4, rfl⟩
theorem r11n (l : Launch) (Z : State) (a0 : Array Value) (hw : ∀ d ∈ tables_1, d.before a0 Z = true) (ws : List Jvm.Cond) (a1 : Addr) (n : Nat) (h0 : Heap) (n0 : Nat) (Z0 : n0 ≤ h0.size) (S : own_Str Z h0 a1 n) (CS : own_CS Z h0) :
    MetFree l (⟨"java/lang/String", "length", "()I"⟩ : MethodName) (head1 (Jvm.Cond.code (⟨"java/lang/String", "length", "()I"⟩ : MethodName) jdk_42_method_54_code 1 (some .int) :: ws) ({ frames := 1, cells := 0, slots := 0, locals := 13 } : Room)) (fun a U => a = #[(.ref a1)] ∧ Z.Warmed39 U.vm ∧ U.heap = h0) (fun _ _ _ _ _ => True) (fun _ U o U' => ∃ v L, o = .returned v ∧ QR (some (.int (Int32.ofNat n))) h0 n0 v U'.heap L ∧ FrameEnd U o U' L ({ frames := 1, cells := 0, slots := 0, locals := 13 } : Room).cells ({ frames := 1, cells := 0, slots := 0, locals := 13 } : Room).slots) := by
  obtain ⟨E, FC, t, k, vs, FV, cl, Ar, q, Sz, N, H, G⟩ := S
  obtain ⟨zc, SC, hz⟩ := CS
  rw [← own_s0 (Int32.ofNat n)]
  exact r11 l Z a0 hw ws a1 t cl (Int32.ofNat n) zc h0 n0 Z0 FV Ar Sz N E SC hz FC
theorem d23_0 : decode jdk_68_method_64_code 0 = .ok (.aload_n 0, 1) := by decide +kernel
theorem d23_1 : decode jdk_68_method_64_code 1 = .ok (.getfield 15, 3) := by decide +kernel
theorem d23_4 : decode jdk_68_method_64_code 4 = .ok (.areturn, 1) := by decide +kernel
theorem pn_23 : plainName "java/lang/AbstractStringBuilder" = true := by first | (simp [plainName, overriddenIn]; done) | decide +kernel
theorem ef_23 (m : MethodId) (x0 : Addr) : entryFrame m #[(.ref x0)] 1 = mkF m 0 #[.val (.ref x0)] [] := by first | (simp [entryFrame, mkF, argsToLocals, Value.category]; done) | rfl
set_option maxRecDepth 65536 in
set_option maxHeartbeats 40000000 in
theorem r23 (l : Launch) (Z : State) (a0 : Array Value) (hw : ∀ d ∈ tables_1, d.before a0 Z = true) (ws : List Jvm.Cond) (a1 : Addr) (w2 : Addr) (h0 : Heap) (n0 : Nat) (Z0 : n0 ≤ h0.size) (F_value_a1 : Fld Z h0 a1 "java/lang/AbstractStringBuilder" "value" "[B" (.ref w2)) :
    MetFree l (⟨"java/lang/AbstractStringBuilder", "getValue", "()[B"⟩ : MethodName) (head1 (Jvm.Cond.code (⟨"java/lang/AbstractStringBuilder", "getValue", "()[B"⟩ : MethodName) jdk_68_method_64_code 1 (some (.array .byte)) :: ws) ({ frames := 0, cells := 0, slots := 0, locals := 0 } : Room)) (fun a U => a = #[(.ref a1)] ∧ Z.Warmed39 U.vm ∧ U.heap = h0) (fun _ _ _ _ _ => True) (fun _ U o U' => ∃ v L, o = .returned v ∧ QR (some (.ref w2)) h0 n0 v U'.heap L ∧ FrameEnd U o U' L ({ frames := 0, cells := 0, slots := 0, locals := 0 } : Room).cells ({ frames := 0, cells := 0, slots := 0, locals := 0 } : Room).slots) := by
  refine MetFree.of_bodySF (plainFor_of_name pn_23) hisR ?_
  intro p e s m args below meth c s₁ Bd hml0 hP hK
  obtain ⟨rfl, hZ, hh⟩ := hP
  have hx := Bd.exec
  have hby := Bd.bytes
  have hml : c.maxLocals = 1 := hml0
  have hown : s.vm.findClass "java/lang/AbstractStringBuilder" = some m.cls := findClass_of_methodNamed Bd.named
  have hnm := (name_of_methodNamed Bd.named Bd.method).1
  have X0 : Stand p l e ({ frames := 0, cells := 0, slots := 0, locals := 0 } : Room) s m #[(.ref a1)] below meth c s₁ [] 0 0 := Stand.of_body Bd
  have e0 : s₁.heap = h0 := by rw [← hh, Bd.state]; rfl
  have N0 := Fr.nil n0
  have pre0 : ∀ t, Steps p.tables e below (s₁.setTop (mkF m 0 #[.val (.ref a1)] [])) t → Steps p.tables e below (s₁.setTop (entryFrame m #[(.ref a1)] 1)) t := fun t k => castTop (ef_23 m a1) k
  obtain ⟨T3, X3, e3, st3⟩ := getF X0 hx hZ hown (host := "") (Or.inl (hw _ (List.mem_of_getElem? (i := 48) rfl))) Via.refl e0 F_value_a1 (g := (mkF m 1 #[.val (.ref a1)] [(.ref a1)])) rfl rfl (hb hby d23_1)
  obtain ⟨fs, hr, hrun, hended, hW, hsame⟩ := X3.leave (v := some (.ref w2)) (fun h => by rw [Bd.returns] at h; cases h)
  refine ⟨_, _, pre0 _ ?_, hrun, hended, _, _, rfl, ?_, ⟨_, rfl⟩, hW, hsame.mono (by decide) (by decide)⟩
  · show Steps p.tables e below (s₁.setTop (mkF m 0 #[.val (.ref a1)] [])) _
    refine XS.aloadN X0.here hx rfl (hb hby d23_0) rfl rfl ?_
    show Steps p.tables e below (s₁.setTop (mkF m 1 #[.val (.ref a1)] [(.ref a1)])) _
    refine st3 _ ?_
    show Steps p.tables e below (T3.setTop (mkF m 4 #[.val (.ref a1)] [(.ref w2)])) _
    jvm_step X3.here [X3.here.top, hx, (hb hby d23_4), X3.method', Bd.returns, Value.isRef, FieldType.isReference]
    first | (intro acts; rw [hr _ acts rfl rfl rfl]) | rw [hr _ _ rfl rfl rfl]
    exact Steps.refl _
  · show QR (some (.ref w2)) h0 n0 _ T3.heap _
    rw [e3]
    exact ⟨rfl, N0, rfl⟩
theorem d25_0 : decode jdk_68_method_6_code 0 = .ok (.aload_n 0, 1) := by decide +kernel
theorem d25_1 : decode jdk_68_method_6_code 1 = .ok (.getfield 79, 3) := by decide +kernel
theorem d25_4 : decode jdk_68_method_6_code 4 = .ok (.ireturn, 1) := by decide +kernel
theorem pn_25 : plainName "java/lang/AbstractStringBuilder" = true := by first | (simp [plainName, overriddenIn]; done) | decide +kernel
theorem ef_25 (m : MethodId) (x0 : Addr) : entryFrame m #[(.ref x0)] 1 = mkF m 0 #[.val (.ref x0)] [] := by first | (simp [entryFrame, mkF, argsToLocals, Value.category]; done) | rfl
set_option maxRecDepth 65536 in
set_option maxHeartbeats 40000000 in
theorem r25 (l : Launch) (Z : State) (a0 : Array Value) (hw : ∀ d ∈ tables_1, d.before a0 Z = true) (ws : List Jvm.Cond) (a1 : Addr) (w2 : Int32) (h0 : Heap) (n0 : Nat) (Z0 : n0 ≤ h0.size) (F_count_a1 : Fld Z h0 a1 "java/lang/AbstractStringBuilder" "count" "I" (.int w2)) :
    MetFree l (⟨"java/lang/AbstractStringBuilder", "length", "()I"⟩ : MethodName) (head1 (Jvm.Cond.code (⟨"java/lang/AbstractStringBuilder", "length", "()I"⟩ : MethodName) jdk_68_method_6_code 1 (some .int) :: ws) ({ frames := 0, cells := 0, slots := 0, locals := 0 } : Room)) (fun a U => a = #[(.ref a1)] ∧ Z.Warmed39 U.vm ∧ U.heap = h0) (fun _ _ _ _ _ => True) (fun _ U o U' => ∃ v L, o = .returned v ∧ QR (some (.int w2)) h0 n0 v U'.heap L ∧ FrameEnd U o U' L ({ frames := 0, cells := 0, slots := 0, locals := 0 } : Room).cells ({ frames := 0, cells := 0, slots := 0, locals := 0 } : Room).slots) := by
  refine MetFree.of_bodySF (plainFor_of_name pn_25) hisR ?_
  intro p e s m args below meth c s₁ Bd hml0 hP hK
  obtain ⟨rfl, hZ, hh⟩ := hP
  have hx := Bd.exec
  have hby := Bd.bytes
  have hml : c.maxLocals = 1 := hml0
  have hown : s.vm.findClass "java/lang/AbstractStringBuilder" = some m.cls := findClass_of_methodNamed Bd.named
  have hnm := (name_of_methodNamed Bd.named Bd.method).1
  have X0 : Stand p l e ({ frames := 0, cells := 0, slots := 0, locals := 0 } : Room) s m #[(.ref a1)] below meth c s₁ [] 0 0 := Stand.of_body Bd
  have e0 : s₁.heap = h0 := by rw [← hh, Bd.state]; rfl
  have N0 := Fr.nil n0
  have pre0 : ∀ t, Steps p.tables e below (s₁.setTop (mkF m 0 #[.val (.ref a1)] [])) t → Steps p.tables e below (s₁.setTop (entryFrame m #[(.ref a1)] 1)) t := fun t k => castTop (ef_25 m a1) k
  obtain ⟨T3, X3, e3, st3⟩ := getF X0 hx hZ hown (host := "") (Or.inl (hw _ (List.mem_of_getElem? (i := 75) rfl))) Via.refl e0 F_count_a1 (g := (mkF m 1 #[.val (.ref a1)] [(.ref a1)])) rfl rfl (hb hby d25_1)
  obtain ⟨fs, hr, hrun, hended, hW, hsame⟩ := X3.leave (v := some (.int w2)) (fun h => by rw [Bd.returns] at h; cases h)
  refine ⟨_, _, pre0 _ ?_, hrun, hended, _, _, rfl, ?_, ⟨_, rfl⟩, hW, hsame.mono (by decide) (by decide)⟩
  · show Steps p.tables e below (s₁.setTop (mkF m 0 #[.val (.ref a1)] [])) _
    refine XS.aloadN X0.here hx rfl (hb hby d25_0) rfl rfl ?_
    show Steps p.tables e below (s₁.setTop (mkF m 1 #[.val (.ref a1)] [(.ref a1)])) _
    refine st3 _ ?_
    show Steps p.tables e below (T3.setTop (mkF m 4 #[.val (.ref a1)] [(.int w2)])) _
    exact retI X3 hx Bd.returns (hb hby d25_4) hr
  · show QR (some (.int w2)) h0 n0 _ T3.heap _
    rw [e3]
    exact ⟨rfl, N0, rfl⟩
theorem d26_0 : decode jdk_68_method_68_code 0 = .ok (.getstatic 18, 3) := by decide +kernel
theorem d26_3 : decode jdk_68_method_68_code 3 = .ok (.ifCond .eq 14, 3) := by decide +kernel
theorem d26_6 : decode jdk_68_method_68_code 6 = .ok (.aload_n 0, 1) := by decide +kernel
theorem d26_7 : decode jdk_68_method_68_code 7 = .ok (.getfield 22, 3) := by decide +kernel
theorem d26_10 : decode jdk_68_method_68_code 10 = .ok (.ifCond .ne 7, 3) := by decide +kernel
theorem d26_13 : decode jdk_68_method_68_code 13 = .ok (.iconst 1, 1) := by decide +kernel
theorem d26_14 : decode jdk_68_method_68_code 14 = .ok (.goto 4, 3) := by decide +kernel
theorem d26_18 : decode jdk_68_method_68_code 18 = .ok (.ireturn, 1) := by decide +kernel
theorem pn_26 : plainName "java/lang/AbstractStringBuilder" = true := by first | (simp [plainName, overriddenIn]; done) | decide +kernel
theorem ef_26 (m : MethodId) (x0 : Addr) : entryFrame m #[(.ref x0)] 1 = mkF m 0 #[.val (.ref x0)] [] := by first | (simp [entryFrame, mkF, argsToLocals, Value.category]; done) | rfl
set_option maxRecDepth 65536 in
set_option maxHeartbeats 40000000 in
theorem r26 (l : Launch) (Z : State) (a0 : Array Value) (hw : ∀ d ∈ tables_1, d.before a0 Z = true) (ws : List Jvm.Cond) (a1 : Addr) (w2 : Int32) (w4 : Int32) (h0 : Heap) (n0 : Nat) (Z0 : n0 ≤ h0.size) (S_COMPACT_STRINGS : Sta Z h0 "java/lang/String" "COMPACT_STRINGS" "Z" (.int w2)) (F_coder_a1 : Fld Z h0 a1 "java/lang/AbstractStringBuilder" "coder" "B" (.int w4)) (hc3 : ¬ (w2 = (0 : Int32))) (hc10 : w4 = (0 : Int32)) :
    MetFree l (⟨"java/lang/AbstractStringBuilder", "isLatin1", "()Z"⟩ : MethodName) (head1 (Jvm.Cond.code (⟨"java/lang/AbstractStringBuilder", "isLatin1", "()Z"⟩ : MethodName) jdk_68_method_68_code 1 (some .boolean) :: ws) ({ frames := 0, cells := 0, slots := 0, locals := 0 } : Room)) (fun a U => a = #[(.ref a1)] ∧ Z.Warmed39 U.vm ∧ U.heap = h0) (fun _ _ _ _ _ => True) (fun _ U o U' => ∃ v L, o = .returned v ∧ QR (some (.int (1 : Int32))) h0 n0 v U'.heap L ∧ FrameEnd U o U' L ({ frames := 0, cells := 0, slots := 0, locals := 0 } : Room).cells ({ frames := 0, cells := 0, slots := 0, locals := 0 } : Room).slots) := by
  refine MetFree.of_bodySF (plainFor_of_name pn_26) hisR ?_
  intro p e s m args below meth c s₁ Bd hml0 hP hK
  obtain ⟨rfl, hZ, hh⟩ := hP
  have hx := Bd.exec
  have hby := Bd.bytes
  have hml : c.maxLocals = 1 := hml0
  have hown : s.vm.findClass "java/lang/AbstractStringBuilder" = some m.cls := findClass_of_methodNamed Bd.named
  have hnm := (name_of_methodNamed Bd.named Bd.method).1
  have X0 : Stand p l e ({ frames := 0, cells := 0, slots := 0, locals := 0 } : Room) s m #[(.ref a1)] below meth c s₁ [] 0 0 := Stand.of_body Bd
  have e0 : s₁.heap = h0 := by rw [← hh, Bd.state]; rfl
  have N0 := Fr.nil n0
  have pre0 : ∀ t, Steps p.tables e below (s₁.setTop (mkF m 0 #[.val (.ref a1)] [])) t → Steps p.tables e below (s₁.setTop (entryFrame m #[(.ref a1)] 1)) t := fun t k => castTop (ef_26 m a1) k
  obtain ⟨T3, X3, e3, st3⟩ := getS2 X0 hx hZ hown (host := "") (Or.inl (hw _ (List.mem_of_getElem? (i := 47) rfl))) Via.refl e0 S_COMPACT_STRINGS (g := (mkF m 0 #[.val (.ref a1)] [])) rfl (hb hby d26_0)
  obtain ⟨T5, X5, e5, st5⟩ := getF X3 hx hZ hown (host := "") (Or.inl (hw _ (List.mem_of_getElem? (i := 50) rfl))) Via.refl e3 F_coder_a1 (g := (mkF m 7 #[.val (.ref a1)] [(.ref a1)])) rfl rfl (hb hby d26_7)
  obtain ⟨fs, hr, hrun, hended, hW, hsame⟩ := X5.leave (v := some (.int (1 : Int32))) (fun h => by rw [Bd.returns] at h; cases h)
  refine ⟨_, _, pre0 _ ?_, hrun, hended, _, _, rfl, ?_, ⟨_, rfl⟩, hW, hsame.mono (by decide) (by decide)⟩
  · show Steps p.tables e below (s₁.setTop (mkF m 0 #[.val (.ref a1)] [])) _
    refine st3 _ ?_
    show Steps p.tables e below (T3.setTop (mkF m 3 #[.val (.ref a1)] [(.int w2)])) _
    refine XS.ifNo X3.here hx rfl (hb hby d26_3) rfl ((if0 _ _).trans (feq hc3).1) ?_
    show Steps p.tables e below (T3.setTop (mkF m 6 #[.val (.ref a1)] [])) _
    refine XS.aloadN X3.here hx rfl (hb hby d26_6) rfl rfl ?_
    show Steps p.tables e below (T3.setTop (mkF m 7 #[.val (.ref a1)] [(.ref a1)])) _
    refine st5 _ ?_
    show Steps p.tables e below (T5.setTop (mkF m 10 #[.val (.ref a1)] [(.int w4)])) _
    refine XS.ifNo X5.here hx rfl (hb hby d26_10) rfl ((if0 _ _).trans (teq hc10).2) ?_
    show Steps p.tables e below (T5.setTop (mkF m 13 #[.val (.ref a1)] [])) _
    refine XS.iconst X5.here hx rfl (hb hby d26_13) ?_
    show Steps p.tables e below (T5.setTop (mkF m 14 #[.val (.ref a1)] [(.int (1 : Int32))])) _
    refine XS.goto X5.here hx rfl (pc0 := 14) (pc' := 18) rfl (hb hby d26_14) (by decide) (by decide) ?_
    show Steps p.tables e below (T5.setTop (mkF m 18 #[.val (.ref a1)] [(.int (1 : Int32))])) _
    exact retN X5 hx (t := .boolean) Bd.returns (by simp) (hb hby d26_18) hr
  · show QR (some (.int (1 : Int32))) h0 n0 _ T5.heap _
    rw [e5]
    exact ⟨rfl, N0, rfl⟩
theorem d24_0 : decode jdk_67_method_93_code 0 = .ok (.aload_n 0, 1) := by decide +kernel
theorem d24_1 : decode jdk_67_method_93_code 1 = .ok (.invokespecial 343, 3) := by decide +kernel
theorem d24_4 : decode jdk_67_method_93_code 4 = .ok (.ireturn, 1) := by decide +kernel
theorem pn_24 : plainName "java/lang/StringBuilder" = true := by first | (simp [plainName, overriddenIn]; done) | decide +kernel
theorem pd_24_7 : parseMethodDescriptor "()I" = some ⟨[], some .int⟩ := by decide +kernel
theorem ef_24 (m : MethodId) (x0 : Addr) : entryFrame m #[(.ref x0)] 1 = mkF m 0 #[.val (.ref x0)] [] := by first | (simp [entryFrame, mkF, argsToLocals, Value.category]; done) | rfl
set_option maxRecDepth 65536 in
set_option maxHeartbeats 40000000 in
theorem r24 (l : Launch) (Z : State) (a0 : Array Value) (hw : ∀ d ∈ tables_1, d.before a0 Z = true) (ws : List Jvm.Cond) (a1 : Addr) (w2 : Int32) (h0 : Heap) (n0 : Nat) (Z0 : n0 ≤ h0.size) (E_a1 : Exa Z h0 a1 "java/lang/StringBuilder") (F : Fld Z h0 a1 "java/lang/AbstractStringBuilder" "count" "I" (.int w2)) :
    MetFree l (⟨"java/lang/StringBuilder", "length", "()I"⟩ : MethodName) (head1 (Jvm.Cond.code (⟨"java/lang/StringBuilder", "length", "()I"⟩ : MethodName) jdk_67_method_93_code 1 (some .int) :: ws) ({ frames := 1, cells := 0, slots := 0, locals := 12 } : Room)) (fun a U => a = #[(.ref a1)] ∧ Z.Warmed39 U.vm ∧ U.heap = h0) (fun _ _ _ _ _ => True) (fun _ U o U' => ∃ v L, o = .returned v ∧ QR (some (.int w2)) h0 n0 v U'.heap L ∧ FrameEnd U o U' L ({ frames := 1, cells := 0, slots := 0, locals := 12 } : Room).cells ({ frames := 1, cells := 0, slots := 0, locals := 12 } : Room).slots) := by
  refine MetFree.of_bodySF (plainFor_of_name pn_24) hisR ?_
  intro p e s m args below meth c s₁ Bd hml0 hP hK
  obtain ⟨rfl, hZ, hh⟩ := hP
  have hx := Bd.exec
  have hby := Bd.bytes
  have hml : c.maxLocals = 1 := hml0
  have hown : s.vm.findClass "java/lang/StringBuilder" = some m.cls := findClass_of_methodNamed Bd.named
  have hnm := (name_of_methodNamed Bd.named Bd.method).1
  have X0 : Stand p l e ({ frames := 1, cells := 0, slots := 0, locals := 12 } : Room) s m #[(.ref a1)] below meth c s₁ [] 0 0 := Stand.of_body Bd
  have e0 : s₁.heap = h0 := by rw [← hh, Bd.state]; rfl
  have N0 := Fr.nil n0
  have pre0 : ∀ t, Steps p.tables e below (s₁.setTop (mkF m 0 #[.val (.ref a1)] [])) t → Steps p.tables e below (s₁.setTop (entryFrame m #[(.ref a1)] 1)) t := fun t k => castTop (ef_24 m a1) k
  obtain ⟨_, _, ⟨T2, L2, k2, n2⟩, -, X2, ⟨Lc2, hQ2, l2, y2, z2⟩, st2⟩ := superBack X0 hx hZ (y := (⟨"java/lang/AbstractStringBuilder", "length", "()I"⟩ : MethodName)) hown (hw _ (List.mem_of_getElem? (i := 146) rfl)) (own_same (y := (⟨"java/lang/AbstractStringBuilder", "length", "()I"⟩ : MethodName)) (own_nf (notFace_of_selects (hw _ (List.mem_of_getElem? (i := 80) rfl))) (hw _ (List.mem_of_getElem? (i := 78) rfl)) rfl) (hw _ (List.mem_of_getElem? (i := 142) rfl)) (by decide)) (hw _ (List.mem_of_getElem? (i := 142) rfl)) (hw _ (List.mem_of_getElem? (i := 59) rfl)) (by decide) (backOf (W := 0) (r25 l Z a0 hw [] a1 w2 h0 n0 Z0 F) hZ (hw _ (List.mem_of_getElem? (i := 147) rfl)) (hw _ (List.mem_of_getElem? (i := 44) rfl)) (by decide) (by decide)) e0 (Ins.self E_a1) (g := (mkF m 1 #[.val (.ref a1)] [(.ref a1)])) rfl (by rw [hml]; rfl) (hw _ (List.mem_of_getElem? (i := 147) rfl)) (argsL := []) (rest := []) (lenOf pd_24_7 rfl) rfl (by show 2 * 0 + _ ≤ _; exact Nat.le_of_eq rfl) (hb hby d24_1) (fun _ _ => ⟨rfl, e0, (by decide : 0 + 0 ≤ _), (by decide : 0 + 0 ≤ _)⟩)
  dsimp only [Pt.U, Pt.locs, Pt.cells, Pt.slots] at X2 l2 y2 z2 st2 hQ2
  subst l2 y2 z2
  obtain ⟨rfl, N2q, e2⟩ := hQ2
  have N2 := Fr.app N0 N2q
  obtain ⟨fs, hr, hrun, hended, hW, hsame⟩ := X2.leave (v := some (.int w2)) (fun h => by rw [Bd.returns] at h; cases h)
  refine ⟨_, _, pre0 _ ?_, hrun, hended, _, _, rfl, ?_, ⟨_, rfl⟩, hW, hsame.mono (by decide) (by decide)⟩
  · show Steps p.tables e below (s₁.setTop (mkF m 0 #[.val (.ref a1)] [])) _
    refine XS.aloadN X0.here hx rfl (hb hby d24_0) rfl rfl ?_
    show Steps p.tables e below (s₁.setTop (mkF m 1 #[.val (.ref a1)] [(.ref a1)])) _
    refine st2.trans ?_
    show Steps p.tables e below (T2.setTop (mkF m 4 #[.val (.ref a1)] [(.int w2)])) _
    exact retI X2 hx Bd.returns (hb hby d24_4) hr
  · show QR (some (.int w2)) h0 n0 _ T2.heap _
    exact ⟨rfl, N2, e2⟩
theorem d15_0 : decode jdk_68_method_71_code 0 = .ok (.getstatic 18, 3) := by decide +kernel
theorem d15_3 : decode jdk_68_method_71_code 3 = .ok (.ifCond .eq 18, 3) := by decide +kernel
theorem d15_6 : decode jdk_68_method_71_code 6 = .ok (.aload_n 0, 1) := by decide +kernel
theorem d15_7 : decode jdk_68_method_71_code 7 = .ok (.getfield 22, 3) := by decide +kernel
theorem d15_10 : decode jdk_68_method_71_code 10 = .ok (.aload_n 1, 1) := by decide +kernel
theorem d15_11 : decode jdk_68_method_71_code 11 = .ok (.invokevirtual 40, 3) := by decide +kernel
theorem d15_14 : decode jdk_68_method_71_code 14 = .ok (.if_icmp .eq 7, 3) := by decide +kernel
theorem d15_21 : decode jdk_68_method_71_code 21 = .ok (.return_, 1) := by decide +kernel
theorem pn_15 : plainName "java/lang/AbstractStringBuilder" = true := by first | (simp [plainName, overriddenIn]; done) | decide +kernel
theorem pd_15_8 : parseMethodDescriptor "()B" = some ⟨[], some .byte⟩ := by decide +kernel
theorem ef_15 (m : MethodId) (x0 : Addr) (x1 : Addr) : entryFrame m #[(.ref x0), (.ref x1)] 2 = mkF m 0 #[.val (.ref x0), .val (.ref x1)] [] := by first | (simp [entryFrame, mkF, argsToLocals, Value.category]; done) | rfl
set_option maxRecDepth 65536 in
set_option maxHeartbeats 40000000 in
theorem r15 (l : Launch) (Z : State) (a0 : Array Value) (hw : ∀ d ∈ tables_1, d.before a0 Z = true) (ws : List Jvm.Cond) (a1 : Addr) (a2 : Addr) (n : Nat) (h0 : Heap) (n0 : Nat) (Z0 : n0 ≤ h0.size) (F_coder_a1 : Fld Z h0 a1 "java/lang/AbstractStringBuilder" "coder" "B" (.int (0 : Int32))) (S : own_Str Z h0 a2 n) (CS : own_CS Z h0) :
    MetFree l (⟨"java/lang/AbstractStringBuilder", "inflateIfNeededFor", "(Ljava/lang/String;)V"⟩ : MethodName) (head1 (Jvm.Cond.code (⟨"java/lang/AbstractStringBuilder", "inflateIfNeededFor", "(Ljava/lang/String;)V"⟩ : MethodName) jdk_68_method_71_code 2 none :: ws) ({ frames := 1, cells := 0, slots := 0, locals := 13 } : Room)) (fun a U => a = #[(.ref a1), (.ref a2)] ∧ Z.Warmed39 U.vm ∧ U.heap = h0) (fun _ _ _ _ _ => True) (fun _ U o U' => ∃ v L, o = .returned v ∧ QR none h0 n0 v U'.heap L ∧ FrameEnd U o U' L ({ frames := 1, cells := 0, slots := 0, locals := 13 } : Room).cells ({ frames := 1, cells := 0, slots := 0, locals := 13 } : Room).slots) := by
  refine MetFree.of_bodySF (plainFor_of_name pn_15) hisR ?_
  intro p e s m args below meth c s₁ Bd hml0 hP hK
  obtain ⟨rfl, hZ, hh⟩ := hP
  have hx := Bd.exec
  obtain ⟨E_a2, FC, -⟩ := id S
  obtain ⟨zc, S_COMPACT_STRINGS, hc3⟩ := id CS
  have hby := Bd.bytes
  have hml : c.maxLocals = 2 := hml0
  have hown : s.vm.findClass "java/lang/AbstractStringBuilder" = some m.cls := findClass_of_methodNamed Bd.named
  have hnm := (name_of_methodNamed Bd.named Bd.method).1
  have X0 : Stand p l e ({ frames := 1, cells := 0, slots := 0, locals := 13 } : Room) s m #[(.ref a1), (.ref a2)] below meth c s₁ [] 0 0 := Stand.of_body Bd
  have e0 : s₁.heap = h0 := by rw [← hh, Bd.state]; rfl
  have N0 := Fr.nil n0
  have pre0 : ∀ t, Steps p.tables e below (s₁.setTop (mkF m 0 #[.val (.ref a1), .val (.ref a2)] [])) t → Steps p.tables e below (s₁.setTop (entryFrame m #[(.ref a1), (.ref a2)] 2)) t := fun t k => castTop (ef_15 m a1 a2) k
  obtain ⟨T4, X4, e4, st4⟩ := getS2 X0 hx hZ hown (host := "") (Or.inl (hw _ (List.mem_of_getElem? (i := 47) rfl))) Via.refl e0 S_COMPACT_STRINGS (g := (mkF m 0 #[.val (.ref a1), .val (.ref a2)] [])) rfl (hb hby d15_0)
  obtain ⟨T6, X6, e6, st6⟩ := getF X4 hx hZ hown (host := "") (Or.inl (hw _ (List.mem_of_getElem? (i := 50) rfl))) Via.refl e4 F_coder_a1 (g := (mkF m 7 #[.val (.ref a1), .val (.ref a2)] [(.ref a1)])) rfl rfl (hb hby d15_7)
  obtain ⟨cq7, kq7, q7a, q7b, q7c⟩ := isOf hZ e6 E_a2
  obtain ⟨_, _, ⟨T7, L7, k7, n7⟩, -, X7, ⟨Lc7, hQ7, l7, y7, z7⟩, st7⟩ := X6.virtualBack hx (y := (⟨"java/lang/String", "coder", "()B"⟩ : MethodName)) (z := (⟨"java/lang/String", "coder", "()B"⟩ : MethodName)) hown (mvT hZ (hw _ (List.mem_of_getElem? (i := 92) rfl))) (mvT hZ (hw _ (List.mem_of_getElem? (i := 69) rfl))) (notFace_of_selects (args := #[]) (mvT hZ (hw _ (List.mem_of_getElem? (i := 71) rfl)))) (mvT hZ (hw _ (List.mem_of_getElem? (i := 71) rfl))) (mvT hZ (hw _ (List.mem_of_getElem? (i := 70) rfl))) (by decide) (backOf (W := 1) (r12 l Z a0 hw [] a2 zc h0 n0 Z0 S_COMPACT_STRINGS FC hc3) hZ (hw _ (List.mem_of_getElem? (i := 72) rfl)) (hw _ (List.mem_of_getElem? (i := 24) rfl)) (by decide) (by decide)) q7a q7c (g := (mkF m 11 #[.val (.ref a1), .val (.ref a2)] [(.ref a2), (.int (0 : Int32))])) rfl (by rw [hml]; rfl) (Steps.refl _) (argsL := []) (rest := [(.int (0 : Int32))]) (lenOf pd_15_8 rfl) rfl (by show 2 * 0 + _ ≤ _; exact Nat.le_of_eq rfl) (hb hby d15_11) (fun _ _ => ⟨rfl, e6, (by decide : 0 + 0 ≤ _), (by decide : 0 + 0 ≤ _)⟩)
  dsimp only [Pt.U, Pt.locs, Pt.cells, Pt.slots] at X7 l7 y7 z7 st7 hQ7
  subst l7 y7 z7
  obtain ⟨rfl, N7q, e7⟩ := hQ7
  have N7 := Fr.app N0 N7q
  obtain ⟨fs, hr, hrun, hended, hW, hsame⟩ := X7.leave (v := none) (fun _ => rfl)
  refine ⟨_, _, pre0 _ ?_, hrun, hended, _, _, rfl, ?_, ⟨_, rfl⟩, hW, hsame.mono (by decide) (by decide)⟩
  · show Steps p.tables e below (s₁.setTop (mkF m 0 #[.val (.ref a1), .val (.ref a2)] [])) _
    refine st4 _ ?_
    show Steps p.tables e below (T4.setTop (mkF m 3 #[.val (.ref a1), .val (.ref a2)] [(.int zc)])) _
    refine XS.ifNo X4.here hx rfl (hb hby d15_3) rfl ((if0 _ _).trans (feq hc3).1) ?_
    show Steps p.tables e below (T4.setTop (mkF m 6 #[.val (.ref a1), .val (.ref a2)] [])) _
    refine XS.aloadN X4.here hx rfl (hb hby d15_6) rfl rfl ?_
    show Steps p.tables e below (T4.setTop (mkF m 7 #[.val (.ref a1), .val (.ref a2)] [(.ref a1)])) _
    refine st6 _ ?_
    show Steps p.tables e below (T6.setTop (mkF m 10 #[.val (.ref a1), .val (.ref a2)] [(.int (0 : Int32))])) _
    refine XS.aloadN X6.here hx rfl (hb hby d15_10) rfl rfl ?_
    show Steps p.tables e below (T6.setTop (mkF m 11 #[.val (.ref a1), .val (.ref a2)] [(.ref a2), (.int (0 : Int32))])) _
    refine st7.trans ?_
    show Steps p.tables e below (T7.setTop (mkF m 14 #[.val (.ref a1), .val (.ref a2)] [(.int (0 : Int32)), (.int (0 : Int32))])) _
    refine XS.icmpYes X7.here hx rfl (pc0 := 14) (pc' := 21) rfl (hb hby d15_14) rfl (teq (rfl : (0 : Int32) = (0 : Int32))).1 (by decide) (by decide) ?_
    show Steps p.tables e below (T7.setTop (mkF m 21 #[.val (.ref a1), .val (.ref a2)] [])) _
    exact X7.returnOut hx Bd.returns (hb hby d15_21) hr
  · show QR none h0 n0 _ T7.heap _
    exact ⟨rfl, N7, e7⟩
theorem d8_0 : decode jdk_68_method_2_code 0 = .ok (.aload_n 0, 1) := by decide +kernel
theorem d8_1 : decode jdk_68_method_2_code 1 = .ok (.invokespecial 3, 3) := by decide +kernel
theorem d8_4 : decode jdk_68_method_2_code 4 = .ok (.getstatic 18, 3) := by decide +kernel
theorem d8_7 : decode jdk_68_method_2_code 7 = .ok (.ifCond .eq 18, 3) := by decide +kernel
theorem d8_10 : decode jdk_68_method_2_code 10 = .ok (.aload_n 0, 1) := by decide +kernel
theorem d8_11 : decode jdk_68_method_2_code 11 = .ok (.iload_n 1, 1) := by decide +kernel
theorem d8_12 : decode jdk_68_method_2_code 12 = .ok (.newarray .byte, 2) := by decide +kernel
theorem d8_14 : decode jdk_68_method_2_code 14 = .ok (.putfield 15, 3) := by decide +kernel
theorem d8_17 : decode jdk_68_method_2_code 17 = .ok (.aload_n 0, 1) := by decide +kernel
theorem d8_18 : decode jdk_68_method_2_code 18 = .ok (.iconst 0, 1) := by decide +kernel
theorem d8_19 : decode jdk_68_method_2_code 19 = .ok (.putfield 22, 3) := by decide +kernel
theorem d8_22 : decode jdk_68_method_2_code 22 = .ok (.goto 16, 3) := by decide +kernel
theorem d8_38 : decode jdk_68_method_2_code 38 = .ok (.return_, 1) := by decide +kernel
theorem pn_8 : plainName "java/lang/AbstractStringBuilder" = true := by first | (simp [plainName, overriddenIn]; done) | decide +kernel
theorem ef_8 (m : MethodId) (x0 : Addr) (x1 : Int32) : entryFrame m #[(.ref x0), (.int x1)] 2 = mkF m 0 #[.val (.ref x0), .val (.int x1)] [] := by first | (simp [entryFrame, mkF, argsToLocals, Value.category]; done) | rfl
def Q8 (Z : State) (a1 : Addr) (h0 : Heap) (n0 : Nat) (v : Option Value) (h : Heap) (L : List Loc) : Prop := v = none ∧ Fr n0 L ∧ Keep h0 h [a1] ∧ own_SBv Z h a1 0 16 h0.size
set_option maxRecDepth 65536 in
set_option maxHeartbeats 40000000 in
theorem r8 (l : Launch) (Z : State) (a0 : Array Value) (hw : ∀ d ∈ tables_1, d.before a0 Z = true) (ws : List Jvm.Cond) (a1 : Addr) (u_value_a1 : Value) (u_coder_a1 : Value) (h0 : Heap) (n0 : Nat) (Z0 : n0 ≤ h0.size) (E_a1 : Exa Z h0 a1 "java/lang/StringBuilder") (F_value_a1 : Fld Z h0 a1 "java/lang/AbstractStringBuilder" "value" "[B" u_value_a1) (g_a1 : n0 ≤ a1) (F_coder_a1 : Fld Z h0 a1 "java/lang/AbstractStringBuilder" "coder" "B" u_coder_a1) (F_count_a1 : Fld Z h0 a1 "java/lang/AbstractStringBuilder" "count" "I" (.int (0 : Int32))) (CS : own_CS Z h0) :
    MetFree l (⟨"java/lang/AbstractStringBuilder", "<init>", "(I)V"⟩ : MethodName) (head1 (Jvm.Cond.code (⟨"java/lang/AbstractStringBuilder", "<init>", "(I)V"⟩ : MethodName) jdk_68_method_2_code 2 none :: ws) ({ frames := 1, cells := 1, slots := 16, locals := 12 } : Room)) (fun a U => a = #[(.ref a1), (.int (16 : Int32))] ∧ Z.Warmed39 U.vm ∧ U.heap = h0) (fun _ _ _ _ _ => True) (fun _ U o U' => ∃ v L, o = .returned v ∧ Q8 Z a1 h0 n0 v U'.heap L ∧ FrameEnd U o U' L ({ frames := 1, cells := 1, slots := 16, locals := 12 } : Room).cells ({ frames := 1, cells := 1, slots := 16, locals := 12 } : Room).slots) := by
  refine MetFree.of_bodySF (plainFor_of_name pn_8) hisR ?_
  intro p e s m args below meth c s₁ Bd hml0 hP hK
  obtain ⟨rfl, hZ, hh⟩ := hP
  have hx := Bd.exec
  obtain ⟨zc, S_COMPACT_STRINGS, hc7⟩ := id CS
  have hby := Bd.bytes
  have hml : c.maxLocals = 2 := hml0
  have hown : s.vm.findClass "java/lang/AbstractStringBuilder" = some m.cls := findClass_of_methodNamed Bd.named
  have hnm := (name_of_methodNamed Bd.named Bd.method).1
  have X0 : Stand p l e ({ frames := 1, cells := 1, slots := 16, locals := 12 } : Room) s m #[(.ref a1), (.int (16 : Int32))] below meth c s₁ [] 0 0 := Stand.of_body Bd
  have e0 : s₁.heap = h0 := by rw [← hh, Bd.state]; rfl
  have N0 := Fr.nil n0
  have pre0 : ∀ t, Steps p.tables e below (s₁.setTop (mkF m 0 #[.val (.ref a1), .val (.int (16 : Int32))] [])) t → Steps p.tables e below (s₁.setTop (entryFrame m #[(.ref a1), (.int (16 : Int32))] 2)) t := fun t k => castTop (ef_8 m a1 (16 : Int32)) k
  obtain ⟨T3, X3, e3, st3⟩ := initO X0 hx hZ hown (hw _ (List.mem_of_getElem? (i := 46) rfl)) (hw _ (List.mem_of_getElem? (i := 21) rfl)) (hw _ (List.mem_of_getElem? (i := 22) rfl)) e0 (g := (mkF m 1 #[.val (.ref a1), .val (.int (16 : Int32))] [(.ref a1)])) rfl (by rw [hml]; rfl) rfl (hb hby d8_1) (by decide) (W := 0) (by show 2 * 0 + _ ≤ _; exact Nat.le_of_eq rfl) (by decide)
  obtain ⟨T5, X5, e5, st5⟩ := getS2 X3 hx hZ hown (host := "") (Or.inl (hw _ (List.mem_of_getElem? (i := 47) rfl))) Via.refl e3 S_COMPACT_STRINGS (g := (mkF m 4 #[.val (.ref a1), .val (.int (16 : Int32))] [])) rfl (hb hby d8_4)
  obtain ⟨T6, h6, k6, X6, e6, E6, A6, st6⟩ := newP X5 hx hZ (hw _ (List.mem_of_getElem? (i := 26) rfl)) e5 (g := (mkF m 12 #[.val (.ref a1), .val (.int (16 : Int32))] [(.int (16 : Int32)), (.ref a1)])) rfl (hb hby d8_12) rfl (by decide) (cap := 16) (by decide) (by decide) (by decide) (by decide)
  obtain ⟨b6, g6⟩ : ∃ z, z = h0.size := ⟨_, rfl⟩
  rw [← g6] at A6 st6
  have V_b6 : Arv Z h6 b6 k6 .byte (16 : Int32) [(.int (0 : Int32)), (.int (0 : Int32)), (.int (0 : Int32)), (.int (0 : Int32)), (.int (0 : Int32)), (.int (0 : Int32)), (.int (0 : Int32)), (.int (0 : Int32)), (.int (0 : Int32)), (.int (0 : Int32)), (.int (0 : Int32)), (.int (0 : Int32)), (.int (0 : Int32)), (.int (0 : Int32)), (.int (0 : Int32)), (.int (0 : Int32))] (.int (0 : Int32)) := (Arv.new A6 (by decide)).pad (pad_rep [] (.int (0 : Int32)) 16)
  have g_b6 : n0 ≤ b6 := Nat.le_trans Z0 (Nat.le_of_eq g6.symm)
  have sz_b6 : h0.size ≤ b6 := (Nat.le_trans (Keep.refl h0 [a1]).1 (Nat.le_of_eq g6.symm))
  have K6 : Keep h0 h6 [a1] := (Keep.refl h0 [a1]).ext E6
  obtain ⟨T7, h7, X7, e7, W7, st7⟩ := putF X6 hx hZ hown (host := "") (Or.inl (hw _ (List.mem_of_getElem? (i := 48) rfl))) Via.refl e6 (F_value_a1.ext E6) (E_a1.ext E6) (Or.inl (hw _ (List.mem_of_getElem? (i := 49) rfl))) (hw _ (List.mem_of_getElem? (i := 35) rfl)) (ty := (.array .byte)) (by decide) rfl rfl (g := (mkF m 14 #[.val (.ref a1), .val (.int (16 : Int32))] [(.ref b6), (.ref a1)])) rfl rfl (hb hby d8_14)
  have Fw7 := (F_value_a1.ext E6).same W7
  have K7 : Keep h0 h7 [a1] := K6.wr W7 (Or.inl (List.mem_of_getElem? (i := 0) rfl))
  have N7 := Fr.snoc X7 N0 g_a1
  obtain ⟨T8, h8, X8, e8, W8, st8⟩ := putFN X7 hx hZ hown (hw _ (List.mem_of_getElem? (i := 50) rfl)) Via.refl e7 ((F_coder_a1.ext E6).other W7 (Or.inr (slot_ne (Or.inl (hw _ (List.mem_of_getElem? (i := 51) rfl))) (Or.inl (hw _ (List.mem_of_getElem? (i := 49) rfl))) (by decide) (t := .byte) (t' := (.array .byte)) (by decide) (by decide)))) ((E_a1.ext E6).wr W7) (Or.inl (hw _ (List.mem_of_getElem? (i := 51) rfl))) (hw _ (List.mem_of_getElem? (i := 35) rfl)) (ty := .byte) (v' := (.int (0 : Int32))) (by decide) rfl (by decide) (g := (mkF m 19 #[.val (.ref a1), .val (.int (16 : Int32))] [(.int (0 : Int32)), (.ref a1)])) rfl rfl (hb hby d8_19)
  have Fw8 := ((F_coder_a1.ext E6).other W7 (Or.inr (slot_ne (Or.inl (hw _ (List.mem_of_getElem? (i := 51) rfl))) (Or.inl (hw _ (List.mem_of_getElem? (i := 49) rfl))) (by decide) (t := .byte) (t' := (.array .byte)) (by decide) (by decide)))).same W8
  have K8 : Keep h0 h8 [a1] := K7.wr W8 (Or.inl (List.mem_of_getElem? (i := 0) rfl))
  have N8 := Fr.snoc X8 N7 g_a1
  obtain ⟨fs, hr, hrun, hended, hW, hsame⟩ := X8.leave (v := none) (fun _ => rfl)
  refine ⟨_, _, pre0 _ ?_, hrun, hended, _, _, rfl, ?_, ⟨_, rfl⟩, hW, hsame.mono (by decide) (by decide)⟩
  · show Steps p.tables e below (s₁.setTop (mkF m 0 #[.val (.ref a1), .val (.int (16 : Int32))] [])) _
    refine XS.aloadN X0.here hx rfl (hb hby d8_0) rfl rfl ?_
    show Steps p.tables e below (s₁.setTop (mkF m 1 #[.val (.ref a1), .val (.int (16 : Int32))] [(.ref a1)])) _
    refine st3 _ ?_
    show Steps p.tables e below (T3.setTop (mkF m 4 #[.val (.ref a1), .val (.int (16 : Int32))] [])) _
    refine st5 _ ?_
    show Steps p.tables e below (T5.setTop (mkF m 7 #[.val (.ref a1), .val (.int (16 : Int32))] [(.int zc)])) _
    refine XS.ifNo X5.here hx rfl (hb hby d8_7) rfl ((if0 _ _).trans (feq hc7).1) ?_
    show Steps p.tables e below (T5.setTop (mkF m 10 #[.val (.ref a1), .val (.int (16 : Int32))] [])) _
    refine XS.aloadN X5.here hx rfl (hb hby d8_10) rfl rfl ?_
    show Steps p.tables e below (T5.setTop (mkF m 11 #[.val (.ref a1), .val (.int (16 : Int32))] [(.ref a1)])) _
    refine XS.iloadN X5.here hx rfl (hb hby d8_11) rfl ?_
    show Steps p.tables e below (T5.setTop (mkF m 12 #[.val (.ref a1), .val (.int (16 : Int32))] [(.int (16 : Int32)), (.ref a1)])) _
    refine st6 _ ?_
    show Steps p.tables e below (T6.setTop (mkF m 14 #[.val (.ref a1), .val (.int (16 : Int32))] [(.ref b6), (.ref a1)])) _
    refine st7 _ ?_
    show Steps p.tables e below (T7.setTop (mkF m 17 #[.val (.ref a1), .val (.int (16 : Int32))] [])) _
    refine XS.aloadN X7.here hx rfl (hb hby d8_17) rfl rfl ?_
    show Steps p.tables e below (T7.setTop (mkF m 18 #[.val (.ref a1), .val (.int (16 : Int32))] [(.ref a1)])) _
    refine XS.iconst X7.here hx rfl (hb hby d8_18) ?_
    show Steps p.tables e below (T7.setTop (mkF m 19 #[.val (.ref a1), .val (.int (16 : Int32))] [(.int (0 : Int32)), (.ref a1)])) _
    refine st8 _ ?_
    show Steps p.tables e below (T8.setTop (mkF m 22 #[.val (.ref a1), .val (.int (16 : Int32))] [])) _
    refine XS.goto X8.here hx rfl (pc0 := 22) (pc' := 38) rfl (hb hby d8_22) (by decide) (by decide) ?_
    show Steps p.tables e below (T8.setTop (mkF m 38 #[.val (.ref a1), .val (.int (16 : Int32))] [])) _
    exact X8.returnOut hx Bd.returns (hb hby d8_38) hr
  · show Q8 Z a1 h0 n0 _ T8.heap _
    rw [e8]
    have hb : b6 ≠ a1 := fun q => Nat.lt_irrefl _ (Nat.lt_of_lt_of_eq (q ▸ E_a1.lt) g6.symm)
    subst g6
    exact ⟨rfl, N8, K8, ((E_a1.ext E6).wr W7).wr W8, Fw8, ((F_count_a1.ext E6).other W7 (Or.inr (slot_ne (Or.inl (hw _ (List.mem_of_getElem? (i := 76) rfl))) (Or.inl (hw _ (List.mem_of_getElem? (i := 49) rfl))) (by decide) (t := .int) (t' := (.array .byte)) (by decide) (by decide)))).other W8 (Or.inr (slot_ne (Or.inl (hw _ (List.mem_of_getElem? (i := 76) rfl))) (Or.inl (hw _ (List.mem_of_getElem? (i := 51) rfl))) (by decide) (t := .int) (t' := .byte) (by decide) (by decide))), Fw7.other W8 (Or.inr (slot_ne (Or.inl (hw _ (List.mem_of_getElem? (i := 49) rfl))) (Or.inl (hw _ (List.mem_of_getElem? (i := 51) rfl))) (by decide) (t := (.array .byte)) (t' := .byte) (by decide) (by decide))), k6, _, (V_b6.other W7 hb).other W8 hb, rfl⟩
theorem d7_0 : decode jdk_67_method_1_code 0 = .ok (.aload_n 0, 1) := by decide +kernel
theorem d7_1 : decode jdk_67_method_1_code 1 = .ok (.bipush 16, 2) := by decide +kernel
theorem d7_3 : decode jdk_67_method_1_code 3 = .ok (.invokespecial 1, 3) := by decide +kernel
theorem d7_6 : decode jdk_67_method_1_code 6 = .ok (.return_, 1) := by decide +kernel
theorem pn_7 : plainName "java/lang/StringBuilder" = true := by first | (simp [plainName, overriddenIn]; done) | decide +kernel
theorem pd_7_4 : parseMethodDescriptor "(I)V" = some ⟨[.int], none⟩ := by decide +kernel
theorem ef_7 (m : MethodId) (x0 : Addr) : entryFrame m #[(.ref x0)] 1 = mkF m 0 #[.val (.ref x0)] [] := by first | (simp [entryFrame, mkF, argsToLocals, Value.category]; done) | rfl
set_option maxRecDepth 65536 in
set_option maxHeartbeats 40000000 in
theorem r7 (l : Launch) (Z : State) (a0 : Array Value) (hw : ∀ d ∈ tables_1, d.before a0 Z = true) (ws : List Jvm.Cond) (a1 : Addr) (u_value_a1 : Value) (u_coder_a1 : Value) (h0 : Heap) (n0 : Nat) (Z0 : n0 ≤ h0.size) (E_a1 : Exa Z h0 a1 "java/lang/StringBuilder") (F_value_a1 : Fld Z h0 a1 "java/lang/AbstractStringBuilder" "value" "[B" u_value_a1) (g_a1 : n0 ≤ a1) (F_coder_a1 : Fld Z h0 a1 "java/lang/AbstractStringBuilder" "coder" "B" u_coder_a1) (F_count_a1 : Fld Z h0 a1 "java/lang/AbstractStringBuilder" "count" "I" (.int (0 : Int32))) (CS : own_CS Z h0) :
    MetFree l (⟨"java/lang/StringBuilder", "<init>", "()V"⟩ : MethodName) (head1 (Jvm.Cond.code (⟨"java/lang/StringBuilder", "<init>", "()V"⟩ : MethodName) jdk_67_method_1_code 1 none :: ws) ({ frames := 2, cells := 1, slots := 16, locals := 25 } : Room)) (fun a U => a = #[(.ref a1)] ∧ Z.Warmed39 U.vm ∧ U.heap = h0) (fun _ _ _ _ _ => True) (fun _ U o U' => ∃ v L, o = .returned v ∧ Q8 Z a1 h0 n0 v U'.heap L ∧ FrameEnd U o U' L ({ frames := 2, cells := 1, slots := 16, locals := 25 } : Room).cells ({ frames := 2, cells := 1, slots := 16, locals := 25 } : Room).slots) := by
  refine MetFree.of_bodySF (plainFor_of_name pn_7) hisR ?_
  intro p e s m args below meth c s₁ Bd hml0 hP hK
  obtain ⟨rfl, hZ, hh⟩ := hP
  have hx := Bd.exec
  have hby := Bd.bytes
  have hml : c.maxLocals = 1 := hml0
  have hown : s.vm.findClass "java/lang/StringBuilder" = some m.cls := findClass_of_methodNamed Bd.named
  have hnm := (name_of_methodNamed Bd.named Bd.method).1
  have X0 : Stand p l e ({ frames := 2, cells := 1, slots := 16, locals := 25 } : Room) s m #[(.ref a1)] below meth c s₁ [] 0 0 := Stand.of_body Bd
  have e0 : s₁.heap = h0 := by rw [← hh, Bd.state]; rfl
  have N0 := Fr.nil n0
  have pre0 : ∀ t, Steps p.tables e below (s₁.setTop (mkF m 0 #[.val (.ref a1)] [])) t → Steps p.tables e below (s₁.setTop (entryFrame m #[(.ref a1)] 1)) t := fun t k => castTop (ef_7 m a1) k
  obtain ⟨_, _, ⟨T2, L2, k2, n2⟩, -, X2, ⟨Lc2, hQ2, l2, y2, z2⟩, st2⟩ := X0.specialBack hx (y := (⟨"java/lang/AbstractStringBuilder", "<init>", "(I)V"⟩ : MethodName)) rfl hown (mvT hZ (hw _ (List.mem_of_getElem? (i := 40) rfl))) (mvT hZ (hw _ (List.mem_of_getElem? (i := 41) rfl))) (mvT hZ (hw _ (List.mem_of_getElem? (i := 45) rfl))) (by decide) (backOf (W := 0) (r8 l Z a0 hw [] a1 u_value_a1 u_coder_a1 h0 n0 Z0 E_a1 F_value_a1 g_a1 F_coder_a1 F_count_a1 CS) hZ (hw _ (List.mem_of_getElem? (i := 45) rfl)) (hw _ (List.mem_of_getElem? (i := 44) rfl)) (by decide) (by decide)) (g := (mkF m 3 #[.val (.ref a1)] [(.int (16 : Int32)), (.ref a1)])) rfl (by rw [hml]; rfl) (Steps.refl _) (a := a1) (argsL := [(.int (16 : Int32))]) (rest := []) (lenOf pd_7_4 rfl) rfl (by show 2 * 0 + _ ≤ _; exact Nat.le_of_eq rfl) (hb hby d7_3) (fun _ _ => ⟨rfl, e0, (by decide : 0 + 1 ≤ _), (by decide : 0 + 16 ≤ _)⟩)
  dsimp only [Pt.U, Pt.locs, Pt.cells, Pt.slots] at X2 l2 y2 z2 st2 hQ2
  subst l2 y2 z2
  obtain ⟨rfl, N2q, Qq⟩ := hQ2
  have N2 := Fr.app N0 N2q
  obtain ⟨fs, hr, hrun, hended, hW, hsame⟩ := X2.leave (v := none) (fun _ => rfl)
  refine ⟨_, _, pre0 _ ?_, hrun, hended, _, _, rfl, ?_, ⟨_, rfl⟩, hW, hsame.mono (by decide) (by decide)⟩
  · show Steps p.tables e below (s₁.setTop (mkF m 0 #[.val (.ref a1)] [])) _
    refine XS.aloadN X0.here hx rfl (hb hby d7_0) rfl rfl ?_
    show Steps p.tables e below (s₁.setTop (mkF m 1 #[.val (.ref a1)] [(.ref a1)])) _
    refine XS.bipush X0.here hx rfl (hb hby d7_1) ?_
    show Steps p.tables e below (s₁.setTop (mkF m 3 #[.val (.ref a1)] [(.int (16 : Int32)), (.ref a1)])) _
    refine st2.trans ?_
    show Steps p.tables e below (T2.setTop (mkF m 6 #[.val (.ref a1)] [])) _
    exact X2.returnOut hx Bd.returns (hb hby d7_6) hr
  · show Q8 Z a1 h0 n0 _ T2.heap _
    exact ⟨rfl, N2, Qq⟩
theorem d16_0 : decode jdk_42_method_147_code 0 = .ok (.aload_n 0, 1) := by decide +kernel
theorem d16_1 : decode jdk_42_method_147_code 1 = .ok (.invokevirtual 335, 3) := by decide +kernel
theorem d16_4 : decode jdk_42_method_147_code 4 = .ok (.iload_n 3, 1) := by decide +kernel
theorem d16_5 : decode jdk_42_method_147_code 5 = .ok (.if_icmp .ne 23, 3) := by decide +kernel
theorem d16_8 : decode jdk_42_method_147_code 8 = .ok (.aload_n 0, 1) := by decide +kernel
theorem d16_9 : decode jdk_42_method_147_code 9 = .ok (.getfield 9, 3) := by decide +kernel
theorem d16_12 : decode jdk_42_method_147_code 12 = .ok (.iconst 0, 1) := by decide +kernel
theorem d16_13 : decode jdk_42_method_147_code 13 = .ok (.aload_n 1, 1) := by decide +kernel
theorem d16_14 : decode jdk_42_method_147_code 14 = .ok (.iload_n 2, 1) := by decide +kernel
theorem d16_15 : decode jdk_42_method_147_code 15 = .ok (.iload_n 3, 1) := by decide +kernel
theorem d16_16 : decode jdk_42_method_147_code 16 = .ok (.ishl, 1) := by decide +kernel
theorem d16_17 : decode jdk_42_method_147_code 17 = .ok (.aload_n 0, 1) := by decide +kernel
theorem d16_18 : decode jdk_42_method_147_code 18 = .ok (.getfield 9, 3) := by decide +kernel
theorem d16_21 : decode jdk_42_method_147_code 21 = .ok (.arraylength, 1) := by decide +kernel
theorem d16_22 : decode jdk_42_method_147_code 22 = .ok (.invokestatic 212, 3) := by decide +kernel
theorem d16_25 : decode jdk_42_method_147_code 25 = .ok (.goto 18, 3) := by decide +kernel
theorem d16_43 : decode jdk_42_method_147_code 43 = .ok (.return_, 1) := by decide +kernel
theorem pn_16 : plainName "java/lang/String" = true := by first | (simp [plainName, overriddenIn]; done) | decide +kernel
theorem pd_16_8 : parseMethodDescriptor "()B" = some ⟨[], some .byte⟩ := by decide +kernel
theorem pd_16_12 : parseMethodDescriptor "(Ljava/lang/Object;ILjava/lang/Object;II)V" = some ⟨[(.object "java/lang/Object"), .int, (.object "java/lang/Object"), .int, .int], none⟩ := by decide +kernel
theorem ef_16 (m : MethodId) (x0 : Addr) (x1 : Addr) (x2 : Int32) (x3 : Int32) : entryFrame m #[(.ref x0), (.ref x1), (.int x2), (.int x3)] 4 = mkF m 0 #[.val (.ref x0), .val (.ref x1), .val (.int x2), .val (.int x3)] [] := by first | (simp [entryFrame, mkF, argsToLocals, Value.category]; done) | rfl
def Q16 (Z : State) (a2 : Addr) (kd : ClassId) (c : Nat) (h0 : Heap) (n0 : Nat) (v : Option Value) (h : Heap) (L : List Loc) : Prop := v = none ∧ Fr n0 L ∧ Keep h0 h [a2] ∧ ∃ vs, Arv Z h a2 kd .byte (Int32.ofNat c) vs (.int 0) ∧ vs.length = c
theorem own_cl64 (a : Nat) (ha : a < 64) : (Int32.ofNat a).toNatClampNeg = a := (by decide +kernel : ∀ a : Fin 64, (Int32.ofNat a.val).toNatClampNeg = a.val) ⟨a, ha⟩
theorem own_nn64 (a : Nat) (ha : a < 64) : ¬ Int32.ofNat a < 0 := (by decide +kernel : ∀ a : Fin 64, ¬ Int32.ofNat a.val < 0) ⟨a, ha⟩
set_option maxRecDepth 65536 in
set_option maxHeartbeats 40000000 in
theorem r16 (l : Launch) (Z : State) (a0 : Array Value) (hw : ∀ d ∈ tables_1, d.before a0 Z = true) (ws : List Jvm.Cond) (a1 : Addr) (a2 : Addr) (n m_ c_ : Nat) (kd : ClassId) (vd : List Value) (h0 : Heap) (n0 : Nat) (Z0 : n0 ≤ h0.size) (S : own_Str Z h0 a1 n) (CS : own_CS Z h0) (B : Arv Z h0 a2 kd .byte (Int32.ofNat c_) vd (.int 0)) (hvd : vd.length = c_) (g_a2 : n0 ≤ a2) (hmn : m_ + n ≤ c_) (hc : c_ < 64) :
    MetFree l (⟨"java/lang/String", "getBytes", "([BIB)V"⟩ : MethodName) (head1 (Jvm.Cond.code (⟨"java/lang/String", "getBytes", "([BIB)V"⟩ : MethodName) jdk_42_method_147_code 4 none :: ws) ({ frames := 1, cells := 0, slots := 0, locals := 18 } : Room)) (fun a U => a = #[(.ref a1), (.ref a2), (.int (Int32.ofNat m_)), (.int (0 : Int32))] ∧ Z.Warmed39 U.vm ∧ U.heap = h0) (fun _ _ _ _ _ => True) (fun _ U o U' => ∃ v L, o = .returned v ∧ Q16 Z a2 kd c_ h0 n0 v U'.heap L ∧ FrameEnd U o U' L ({ frames := 1, cells := 0, slots := 0, locals := 18 } : Room).cells ({ frames := 1, cells := 0, slots := 0, locals := 18 } : Room).slots) := by
  refine MetFree.of_bodySF (plainFor_of_name pn_16) hisR ?_
  intro p e s m args below meth c s₁ Bd hml0 hP hK
  obtain ⟨rfl, hZ, hh⟩ := hP
  have hx := Bd.exec
  obtain ⟨E_a1, FC, ta, ka, va, F_value_a1, VA⟩ := id S
  obtain ⟨cl_ta, Ar_ta, qa, S_ta, N_ta, Ha, Ga⟩ := id VA
  obtain ⟨zc, SC, hz⟩ := id CS
  have x1 : (Int32.ofNat n).toNatClampNeg = n := own_cl64 n (by omega)
  have x2 : (Int32.ofNat m_).toNatClampNeg = m_ := own_cl64 m_ (by omega)
  have x3 : (Int32.ofNat c_).toNatClampNeg = c_ := own_cl64 c_ (by omega)
  have hp2 : ¬ ((Int32.ofNat m_) <<< ((0 : Int32) &&& 31)) < 0 := by rw [own_l0]; exact own_nn64 m_ (by omega)
  have hp3 : ¬ (Int32.ofNat n) < 0 := own_nn64 n (by omega)
  have hby := Bd.bytes
  have hml : c.maxLocals = 4 := hml0
  have hown : s.vm.findClass "java/lang/String" = some m.cls := findClass_of_methodNamed Bd.named
  have hnm := (name_of_methodNamed Bd.named Bd.method).1
  have X0 : Stand p l e ({ frames := 1, cells := 0, slots := 0, locals := 18 } : Room) s m #[(.ref a1), (.ref a2), (.int (Int32.ofNat m_)), (.int (0 : Int32))] below meth c s₁ [] 0 0 := Stand.of_body Bd
  have e0 : s₁.heap = h0 := by rw [← hh, Bd.state]; rfl
  have N0 := Fr.nil n0
  have pre0 : ∀ t, Steps p.tables e below (s₁.setTop (mkF m 0 #[.val (.ref a1), .val (.ref a2), .val (.int (Int32.ofNat m_)), .val (.int (0 : Int32))] [])) t → Steps p.tables e below (s₁.setTop (entryFrame m #[(.ref a1), (.ref a2), (.int (Int32.ofNat m_)), (.int (0 : Int32))] 4)) t := fun t k => castTop (ef_16 m a1 a2 (Int32.ofNat m_) (0 : Int32)) k
  obtain ⟨cq5, kq5, q5a, q5b, q5c⟩ := isOf hZ e0 E_a1
  obtain ⟨_, _, ⟨T5, L5, k5, n5⟩, -, X5, ⟨Lc5, hQ5, l5, y5, z5⟩, st5⟩ := X0.virtualBack hx (y := (⟨"java/lang/String", "coder", "()B"⟩ : MethodName)) (z := (⟨"java/lang/String", "coder", "()B"⟩ : MethodName)) hown (mvT hZ (hw _ (List.mem_of_getElem? (i := 68) rfl))) (mvT hZ (hw _ (List.mem_of_getElem? (i := 69) rfl))) (notFace_of_selects (args := #[]) (mvT hZ (hw _ (List.mem_of_getElem? (i := 71) rfl)))) (mvT hZ (hw _ (List.mem_of_getElem? (i := 71) rfl))) (mvT hZ (hw _ (List.mem_of_getElem? (i := 70) rfl))) (by decide) (backOf (W := 0) (r12 l Z a0 hw [] a1 zc h0 n0 Z0 SC FC hz) hZ (hw _ (List.mem_of_getElem? (i := 72) rfl)) (hw _ (List.mem_of_getElem? (i := 24) rfl)) (by decide) (by decide)) q5a q5c (g := (mkF m 1 #[.val (.ref a1), .val (.ref a2), .val (.int (Int32.ofNat m_)), .val (.int (0 : Int32))] [(.ref a1)])) rfl (by rw [hml]; rfl) (Steps.refl _) (argsL := []) (rest := []) (lenOf pd_16_8 rfl) rfl (by show 2 * 0 + _ ≤ _; exact Nat.le_of_eq rfl) (hb hby d16_1) (fun _ _ => ⟨rfl, e0, (by decide : 0 + 0 ≤ _), (by decide : 0 + 0 ≤ _)⟩)
  dsimp only [Pt.U, Pt.locs, Pt.cells, Pt.slots] at X5 l5 y5 z5 st5 hQ5
  subst l5 y5 z5
  obtain ⟨rfl, N5q, e5⟩ := hQ5
  have N5 := Fr.app N0 N5q
  obtain ⟨T7, X7, e7, st7⟩ := getF X5 hx hZ hown (host := "") (Or.inl (hw _ (List.mem_of_getElem? (i := 67) rfl))) Via.refl e5 F_value_a1 (g := (mkF m 9 #[.val (.ref a1), .val (.ref a2), .val (.int (Int32.ofNat m_)), .val (.int (0 : Int32))] [(.ref a1)])) rfl rfl (hb hby d16_9)
  obtain ⟨T8, X8, e8, st8⟩ := getF X7 hx hZ hown (host := "") (Or.inl (hw _ (List.mem_of_getElem? (i := 67) rfl))) Via.refl e7 F_value_a1 (g := (mkF m 18 #[.val (.ref a1), .val (.ref a2), .val (.int (Int32.ofNat m_)), .val (.int (0 : Int32))] [(.ref a1), (.int ((Int32.ofNat m_) <<< ((0 : Int32) &&& 31))), (.ref a2), (.int (0 : Int32)), (.ref ta)])) rfl rfl (hb hby d16_18)
  obtain ⟨T9, h9, L9, X9, e9, N9, K9, V9, st9⟩ := cpA X8 hx hZ hown (hw _ (List.mem_of_getElem? (i := 98) rfl)) (hw _ (List.mem_of_getElem? (i := 101) rfl)) (hw _ (List.mem_of_getElem? (i := 99) rfl)) (hw _ (List.mem_of_getElem? (i := 100) rfl)) e8 VA B (Or.inl ⟨rfl, rfl⟩) (by decide) hp2 hp3 (by rw [x1]; exact Nat.le_of_eq (Nat.zero_add _)) (by rw [own_l0, x1, x2, x3]; exact hmn) rfl (by rw [own_l0, x1, x2, hvd]; exact hmn) N5 g_a2 (g := (mkF m 22 #[.val (.ref a1), .val (.ref a2), .val (.int (Int32.ofNat m_)), .val (.int (0 : Int32))] [(.int (Int32.ofNat n)), (.int ((Int32.ofNat m_) <<< ((0 : Int32) &&& 31))), (.ref a2), (.int (0 : Int32)), (.ref ta)])) rfl (by rw [hml]; rfl) (rest := []) rfl (hb hby d16_22) (by decide) (W := 0) (by show 2 * 0 + _ ≤ _; exact Nat.le_of_eq rfl) (by decide)
  obtain ⟨fs, hr, hrun, hended, hW, hsame⟩ := X9.leave (v := none) (fun _ => rfl)
  refine ⟨_, _, pre0 _ ?_, hrun, hended, _, _, rfl, ?_, ⟨_, rfl⟩, hW, hsame.mono (by decide) (by decide)⟩
  · show Steps p.tables e below (s₁.setTop (mkF m 0 #[.val (.ref a1), .val (.ref a2), .val (.int (Int32.ofNat m_)), .val (.int (0 : Int32))] [])) _
    refine XS.aloadN X0.here hx rfl (hb hby d16_0) rfl rfl ?_
    show Steps p.tables e below (s₁.setTop (mkF m 1 #[.val (.ref a1), .val (.ref a2), .val (.int (Int32.ofNat m_)), .val (.int (0 : Int32))] [(.ref a1)])) _
    refine st5.trans ?_
    show Steps p.tables e below (T5.setTop (mkF m 4 #[.val (.ref a1), .val (.ref a2), .val (.int (Int32.ofNat m_)), .val (.int (0 : Int32))] [(.int (0 : Int32))])) _
    refine XS.iloadN X5.here hx rfl (hb hby d16_4) rfl ?_
    show Steps p.tables e below (T5.setTop (mkF m 5 #[.val (.ref a1), .val (.ref a2), .val (.int (Int32.ofNat m_)), .val (.int (0 : Int32))] [(.int (0 : Int32)), (.int (0 : Int32))])) _
    refine XS.icmpNo X5.here hx rfl (hb hby d16_5) rfl (teq (rfl : (0 : Int32) = (0 : Int32))).2 ?_
    show Steps p.tables e below (T5.setTop (mkF m 8 #[.val (.ref a1), .val (.ref a2), .val (.int (Int32.ofNat m_)), .val (.int (0 : Int32))] [])) _
    refine XS.aloadN X5.here hx rfl (hb hby d16_8) rfl rfl ?_
    show Steps p.tables e below (T5.setTop (mkF m 9 #[.val (.ref a1), .val (.ref a2), .val (.int (Int32.ofNat m_)), .val (.int (0 : Int32))] [(.ref a1)])) _
    refine st7 _ ?_
    show Steps p.tables e below (T7.setTop (mkF m 12 #[.val (.ref a1), .val (.ref a2), .val (.int (Int32.ofNat m_)), .val (.int (0 : Int32))] [(.ref ta)])) _
    refine XS.iconst X7.here hx rfl (hb hby d16_12) ?_
    show Steps p.tables e below (T7.setTop (mkF m 13 #[.val (.ref a1), .val (.ref a2), .val (.int (Int32.ofNat m_)), .val (.int (0 : Int32))] [(.int (0 : Int32)), (.ref ta)])) _
    refine XS.aloadN X7.here hx rfl (hb hby d16_13) rfl rfl ?_
    show Steps p.tables e below (T7.setTop (mkF m 14 #[.val (.ref a1), .val (.ref a2), .val (.int (Int32.ofNat m_)), .val (.int (0 : Int32))] [(.ref a2), (.int (0 : Int32)), (.ref ta)])) _
    refine XS.iloadN X7.here hx rfl (hb hby d16_14) rfl ?_
    show Steps p.tables e below (T7.setTop (mkF m 15 #[.val (.ref a1), .val (.ref a2), .val (.int (Int32.ofNat m_)), .val (.int (0 : Int32))] [(.int (Int32.ofNat m_)), (.ref a2), (.int (0 : Int32)), (.ref ta)])) _
    refine XS.iloadN X7.here hx rfl (hb hby d16_15) rfl ?_
    show Steps p.tables e below (T7.setTop (mkF m 16 #[.val (.ref a1), .val (.ref a2), .val (.int (Int32.ofNat m_)), .val (.int (0 : Int32))] [(.int (0 : Int32)), (.int (Int32.ofNat m_)), (.ref a2), (.int (0 : Int32)), (.ref ta)])) _
    refine XS.ishl X7.here hx rfl (hb hby d16_16) rfl ?_
    show Steps p.tables e below (T7.setTop (mkF m 17 #[.val (.ref a1), .val (.ref a2), .val (.int (Int32.ofNat m_)), .val (.int (0 : Int32))] [(.int ((Int32.ofNat m_) <<< ((0 : Int32) &&& 31))), (.ref a2), (.int (0 : Int32)), (.ref ta)])) _
    refine XS.aloadN X7.here hx rfl (hb hby d16_17) rfl rfl ?_
    show Steps p.tables e below (T7.setTop (mkF m 18 #[.val (.ref a1), .val (.ref a2), .val (.int (Int32.ofNat m_)), .val (.int (0 : Int32))] [(.ref a1), (.int ((Int32.ofNat m_) <<< ((0 : Int32) &&& 31))), (.ref a2), (.int (0 : Int32)), (.ref ta)])) _
    refine st8 _ ?_
    show Steps p.tables e below (T8.setTop (mkF m 21 #[.val (.ref a1), .val (.ref a2), .val (.int (Int32.ofNat m_)), .val (.int (0 : Int32))] [(.ref ta), (.int ((Int32.ofNat m_) <<< ((0 : Int32) &&& 31))), (.ref a2), (.int (0 : Int32)), (.ref ta)])) _
    refine X8.arraylength hx (by rw [e8]; exact Ar_ta.1) (State.isArrayOf_alike hZ.alike Ar_ta.2.1) (g := (mkF m 21 #[.val (.ref a1), .val (.ref a2), .val (.int (Int32.ofNat m_)), .val (.int (0 : Int32))] [(.ref ta), (.int ((Int32.ofNat m_) <<< ((0 : Int32) &&& 31))), (.ref a2), (.int (0 : Int32)), (.ref ta)])) rfl rfl (hb hby d16_21) _ ?_
    rw [len_of S_ta N_ta]
    show Steps p.tables e below (T8.setTop (mkF m 22 #[.val (.ref a1), .val (.ref a2), .val (.int (Int32.ofNat m_)), .val (.int (0 : Int32))] [(.int (Int32.ofNat n)), (.int ((Int32.ofNat m_) <<< ((0 : Int32) &&& 31))), (.ref a2), (.int (0 : Int32)), (.ref ta)])) _
    refine st9 _ ?_
    show Steps p.tables e below (T9.setTop (mkF m 25 #[.val (.ref a1), .val (.ref a2), .val (.int (Int32.ofNat m_)), .val (.int (0 : Int32))] [])) _
    refine XS.goto X9.here hx rfl (pc0 := 25) (pc' := 43) rfl (hb hby d16_25) (by decide) (by decide) ?_
    show Steps p.tables e below (T9.setTop (mkF m 43 #[.val (.ref a1), .val (.ref a2), .val (.int (Int32.ofNat m_)), .val (.int (0 : Int32))] [])) _
    exact X9.returnOut hx Bd.returns (hb hby d16_43) hr
  · show Q16 Z a2 kd c_ h0 n0 _ T9.heap _
    refine ⟨rfl, N9, by rw [e9]; exact K9, _, by rw [e9]; exact V9, ?_⟩
    rw [own_l0, x1, x2]
    simp only [List.length_append, List.length_take, List.length_drop, List.length_map, List.length_range]
    omega
theorem d14_0 : decode jdk_68_method_73_code 0 = .ok (.aload_n 0, 1) := by decide +kernel
theorem d14_1 : decode jdk_68_method_73_code 1 = .ok (.aload_n 2, 1) := by decide +kernel
theorem d14_2 : decode jdk_68_method_73_code 2 = .ok (.invokevirtual 397, 3) := by decide +kernel
theorem d14_5 : decode jdk_68_method_73_code 5 = .ok (.aload_n 2, 1) := by decide +kernel
theorem d14_6 : decode jdk_68_method_73_code 6 = .ok (.aload_n 0, 1) := by decide +kernel
theorem d14_7 : decode jdk_68_method_73_code 7 = .ok (.getfield 15, 3) := by decide +kernel
theorem d14_10 : decode jdk_68_method_73_code 10 = .ok (.iload_n 1, 1) := by decide +kernel
theorem d14_11 : decode jdk_68_method_73_code 11 = .ok (.aload_n 0, 1) := by decide +kernel
theorem d14_12 : decode jdk_68_method_73_code 12 = .ok (.getfield 22, 3) := by decide +kernel
theorem d14_15 : decode jdk_68_method_73_code 15 = .ok (.invokevirtual 399, 3) := by decide +kernel
theorem d14_18 : decode jdk_68_method_73_code 18 = .ok (.return_, 1) := by decide +kernel
theorem pn_14 : plainName "java/lang/AbstractStringBuilder" = true := by first | (simp [plainName, overriddenIn]; done) | decide +kernel
theorem pd_14_10 : parseMethodDescriptor "(Ljava/lang/String;)V" = some ⟨[(.object "java/lang/String")], none⟩ := by decide +kernel
theorem pd_14_11 : parseMethodDescriptor "([BIB)V" = some ⟨[(.array .byte), .int, .byte], none⟩ := by decide +kernel
theorem ef_14 (m : MethodId) (x0 : Addr) (x1 : Int32) (x2 : Addr) : entryFrame m #[(.ref x0), (.int x1), (.ref x2)] 3 = mkF m 0 #[.val (.ref x0), .val (.int x1), .val (.ref x2)] [] := by first | (simp [entryFrame, mkF, argsToLocals, Value.category]; done) | rfl
set_option maxRecDepth 65536 in
set_option maxHeartbeats 40000000 in
theorem r14 (l : Launch) (Z : State) (a0 : Array Value) (hw : ∀ d ∈ tables_1, d.before a0 Z = true) (ws : List Jvm.Cond) (a1 : Addr) (a3 : Addr) (w5 : Addr) (n m_ c_ : Nat) (kd : ClassId) (vd : List Value) (h0 : Heap) (n0 : Nat) (Z0 : n0 ≤ h0.size) (E_a1 : Exa Z h0 a1 "java/lang/StringBuilder") (F_value_a1 : Fld Z h0 a1 "java/lang/AbstractStringBuilder" "value" "[B" (.ref w5)) (F_coder_a1 : Fld Z h0 a1 "java/lang/AbstractStringBuilder" "coder" "B" (.int (0 : Int32))) (S : own_Str Z h0 a3 n) (CS : own_CS Z h0) (B : Arv Z h0 w5 kd .byte (Int32.ofNat c_) vd (.int 0)) (hvd : vd.length = c_) (g_w5 : n0 ≤ w5) (hmn : m_ + n ≤ c_) (hc : c_ < 64) :
    MetFree l (⟨"java/lang/AbstractStringBuilder", "putStringAt", "(ILjava/lang/String;)V"⟩ : MethodName) (head1 (Jvm.Cond.code (⟨"java/lang/AbstractStringBuilder", "putStringAt", "(ILjava/lang/String;)V"⟩ : MethodName) jdk_68_method_73_code 3 none :: ws) ({ frames := 2, cells := 0, slots := 0, locals := 33 } : Room)) (fun a U => a = #[(.ref a1), (.int (Int32.ofNat m_)), (.ref a3)] ∧ Z.Warmed39 U.vm ∧ U.heap = h0) (fun _ _ _ _ _ => True) (fun _ U o U' => ∃ v L, o = .returned v ∧ Q16 Z w5 kd c_ h0 n0 v U'.heap L ∧ FrameEnd U o U' L ({ frames := 2, cells := 0, slots := 0, locals := 33 } : Room).cells ({ frames := 2, cells := 0, slots := 0, locals := 33 } : Room).slots) := by
  refine MetFree.of_bodySF (plainFor_of_name pn_14) hisR ?_
  intro p e s m args below meth c s₁ Bd hml0 hP hK
  obtain ⟨rfl, hZ, hh⟩ := hP
  have hx := Bd.exec
  have E_a3 := S.1
  have hby := Bd.bytes
  have hml : c.maxLocals = 3 := hml0
  have hown : s.vm.findClass "java/lang/AbstractStringBuilder" = some m.cls := findClass_of_methodNamed Bd.named
  have hnm := (name_of_methodNamed Bd.named Bd.method).1
  have X0 : Stand p l e ({ frames := 2, cells := 0, slots := 0, locals := 33 } : Room) s m #[(.ref a1), (.int (Int32.ofNat m_)), (.ref a3)] below meth c s₁ [] 0 0 := Stand.of_body Bd
  have e0 : s₁.heap = h0 := by rw [← hh, Bd.state]; rfl
  have N0 := Fr.nil n0
  have pre0 : ∀ t, Steps p.tables e below (s₁.setTop (mkF m 0 #[.val (.ref a1), .val (.int (Int32.ofNat m_)), .val (.ref a3)] [])) t → Steps p.tables e below (s₁.setTop (entryFrame m #[(.ref a1), (.int (Int32.ofNat m_)), (.ref a3)] 3)) t := fun t k => castTop (ef_14 m a1 (Int32.ofNat m_) a3) k
  obtain ⟨cq4, q4, q4'⟩ := E_a1.cell
  obtain ⟨_, _, ⟨T4, L4, k4, n4⟩, -, X4, ⟨Lc4, hQ4, l4, y4, z4⟩, st4⟩ := X0.privateBack hx (y := (⟨"java/lang/AbstractStringBuilder", "inflateIfNeededFor", "(Ljava/lang/String;)V"⟩ : MethodName)) hown (mvT hZ (hw _ (List.mem_of_getElem? (i := 87) rfl))) (mvT hZ (hw _ (List.mem_of_getElem? (i := 88) rfl))) (mvT hZ (own_selP (hw _ (List.mem_of_getElem? (i := 90) rfl)) (hw _ (List.mem_of_getElem? (i := 89) rfl)) (hw _ (List.mem_of_getElem? (i := 88) rfl)) (by decide))) (Cond.privateMethod_at (mvP hZ (hw _ (List.mem_of_getElem? (i := 89) rfl)) (args := #[]))) (mvT hZ (hw _ (List.mem_of_getElem? (i := 91) rfl))) (by decide) (backOf (W := 0) (r15 l Z a0 hw [] a1 a3 n h0 n0 Z0 F_coder_a1 S CS) hZ (hw _ (List.mem_of_getElem? (i := 91) rfl)) (hw _ (List.mem_of_getElem? (i := 44) rfl)) (by decide) (by decide)) (g := (mkF m 2 #[.val (.ref a1), .val (.int (Int32.ofNat m_)), .val (.ref a3)] [(.ref a3), (.ref a1)])) rfl (by rw [hml]; rfl) (Steps.refl _) (a := a1) (by rw [e0]; exact q4) q4' (argsL := [(.ref a3)]) (rest := []) (lenOf pd_14_10 rfl) rfl (by show 2 * 0 + _ ≤ _; exact Nat.le_of_eq rfl) (hb hby d14_2) (fun _ _ => ⟨rfl, e0, (by decide : 0 + 0 ≤ _), (by decide : 0 + 0 ≤ _)⟩)
  dsimp only [Pt.U, Pt.locs, Pt.cells, Pt.slots] at X4 l4 y4 z4 st4 hQ4
  subst l4 y4 z4
  obtain ⟨rfl, N4q, e4⟩ := hQ4
  have N4 := Fr.app N0 N4q
  obtain ⟨T6, X6, e6, st6⟩ := getF X4 hx hZ hown (host := "") (Or.inl (hw _ (List.mem_of_getElem? (i := 48) rfl))) Via.refl e4 F_value_a1 (g := (mkF m 7 #[.val (.ref a1), .val (.int (Int32.ofNat m_)), .val (.ref a3)] [(.ref a1), (.ref a3)])) rfl rfl (hb hby d14_7)
  obtain ⟨T8, X8, e8, st8⟩ := getF X6 hx hZ hown (host := "") (Or.inl (hw _ (List.mem_of_getElem? (i := 50) rfl))) Via.refl e6 F_coder_a1 (g := (mkF m 12 #[.val (.ref a1), .val (.int (Int32.ofNat m_)), .val (.ref a3)] [(.ref a1), (.int (Int32.ofNat m_)), (.ref w5), (.ref a3)])) rfl rfl (hb hby d14_12)
  obtain ⟨cq9, kq9, q9a, q9b, q9c⟩ := isOf hZ e8 E_a3
  obtain ⟨_, _, ⟨T9, L9, k9, n9⟩, -, X9, ⟨Lc9, hQ9, l9, y9, z9⟩, st9⟩ := X8.virtualBack hx (y := (⟨"java/lang/String", "getBytes", "([BIB)V"⟩ : MethodName)) (z := (⟨"java/lang/String", "getBytes", "([BIB)V"⟩ : MethodName)) hown (mvT hZ (hw _ (List.mem_of_getElem? (i := 93) rfl))) (mvT hZ (hw _ (List.mem_of_getElem? (i := 94) rfl))) (notFace_of_selects (args := #[]) (mvT hZ (hw _ (List.mem_of_getElem? (i := 96) rfl)))) (mvT hZ (hw _ (List.mem_of_getElem? (i := 96) rfl))) (mvT hZ (hw _ (List.mem_of_getElem? (i := 95) rfl))) (by decide) (backOf (W := 0) (r16 l Z a0 hw [] a3 w5 n m_ c_ kd vd h0 n0 Z0 S CS B hvd g_w5 hmn hc) hZ (hw _ (List.mem_of_getElem? (i := 97) rfl)) (hw _ (List.mem_of_getElem? (i := 24) rfl)) (by decide) (by decide)) q9a q9c (g := (mkF m 15 #[.val (.ref a1), .val (.int (Int32.ofNat m_)), .val (.ref a3)] [(.int (0 : Int32)), (.int (Int32.ofNat m_)), (.ref w5), (.ref a3)])) rfl (by rw [hml]; rfl) (Steps.refl _) (argsL := [(.ref w5), (.int (Int32.ofNat m_)), (.int (0 : Int32))]) (rest := []) (lenOf pd_14_11 rfl) rfl (by show 2 * 0 + _ ≤ _; exact Nat.le_of_eq rfl) (hb hby d14_15) (fun _ _ => ⟨rfl, e8, (by decide : 0 + 0 ≤ _), (by decide : 0 + 0 ≤ _)⟩)
  dsimp only [Pt.U, Pt.locs, Pt.cells, Pt.slots] at X9 l9 y9 z9 st9 hQ9
  subst l9 y9 z9
  obtain ⟨rfl, N9q, Qq⟩ := hQ9
  have N9 := Fr.app N4 N9q
  obtain ⟨fs, hr, hrun, hended, hW, hsame⟩ := X9.leave (v := none) (fun _ => rfl)
  refine ⟨_, _, pre0 _ ?_, hrun, hended, _, _, rfl, ?_, ⟨_, rfl⟩, hW, hsame.mono (by decide) (by decide)⟩
  · show Steps p.tables e below (s₁.setTop (mkF m 0 #[.val (.ref a1), .val (.int (Int32.ofNat m_)), .val (.ref a3)] [])) _
    refine XS.aloadN X0.here hx rfl (hb hby d14_0) rfl rfl ?_
    show Steps p.tables e below (s₁.setTop (mkF m 1 #[.val (.ref a1), .val (.int (Int32.ofNat m_)), .val (.ref a3)] [(.ref a1)])) _
    refine XS.aloadN X0.here hx rfl (hb hby d14_1) rfl rfl ?_
    show Steps p.tables e below (s₁.setTop (mkF m 2 #[.val (.ref a1), .val (.int (Int32.ofNat m_)), .val (.ref a3)] [(.ref a3), (.ref a1)])) _
    refine st4.trans ?_
    show Steps p.tables e below (T4.setTop (mkF m 5 #[.val (.ref a1), .val (.int (Int32.ofNat m_)), .val (.ref a3)] [])) _
    refine XS.aloadN X4.here hx rfl (hb hby d14_5) rfl rfl ?_
    show Steps p.tables e below (T4.setTop (mkF m 6 #[.val (.ref a1), .val (.int (Int32.ofNat m_)), .val (.ref a3)] [(.ref a3)])) _
    refine XS.aloadN X4.here hx rfl (hb hby d14_6) rfl rfl ?_
    show Steps p.tables e below (T4.setTop (mkF m 7 #[.val (.ref a1), .val (.int (Int32.ofNat m_)), .val (.ref a3)] [(.ref a1), (.ref a3)])) _
    refine st6 _ ?_
    show Steps p.tables e below (T6.setTop (mkF m 10 #[.val (.ref a1), .val (.int (Int32.ofNat m_)), .val (.ref a3)] [(.ref w5), (.ref a3)])) _
    refine XS.iloadN X6.here hx rfl (hb hby d14_10) rfl ?_
    show Steps p.tables e below (T6.setTop (mkF m 11 #[.val (.ref a1), .val (.int (Int32.ofNat m_)), .val (.ref a3)] [(.int (Int32.ofNat m_)), (.ref w5), (.ref a3)])) _
    refine XS.aloadN X6.here hx rfl (hb hby d14_11) rfl rfl ?_
    show Steps p.tables e below (T6.setTop (mkF m 12 #[.val (.ref a1), .val (.int (Int32.ofNat m_)), .val (.ref a3)] [(.ref a1), (.int (Int32.ofNat m_)), (.ref w5), (.ref a3)])) _
    refine st8 _ ?_
    show Steps p.tables e below (T8.setTop (mkF m 15 #[.val (.ref a1), .val (.int (Int32.ofNat m_)), .val (.ref a3)] [(.int (0 : Int32)), (.int (Int32.ofNat m_)), (.ref w5), (.ref a3)])) _
    refine st9.trans ?_
    show Steps p.tables e below (T9.setTop (mkF m 18 #[.val (.ref a1), .val (.int (Int32.ofNat m_)), .val (.ref a3)] [])) _
    exact X9.returnOut hx Bd.returns (hb hby d14_18) hr
  · show Q16 Z w5 kd c_ h0 n0 _ T9.heap _
    exact ⟨rfl, N9, Qq⟩
theorem r2c (l : Launch) (Z : State) (a0 : Array Value) (hw : ∀ d ∈ tables_1, d.before a0 Z = true) (ws : List Jvm.Cond) (p1 p2 vv : Int32) (h0 : Heap) (n0 : Nat) (Z0 : n0 ≤ h0.size) (hv : own_max p1 p2 = vv) :
    MetFree l (⟨"java/lang/Math", "max", "(II)I"⟩ : MethodName) (head1 (Jvm.Cond.code (⟨"java/lang/Math", "max", "(II)I"⟩ : MethodName) jdk_29_method_65_code 2 (some .int) :: ws) ({ frames := 0, cells := 0, slots := 0, locals := 0 } : Room)) (fun a U => a = #[(.int p1), (.int p2)] ∧ Z.Warmed39 U.vm ∧ U.heap = h0) (fun _ _ _ _ _ => True) (fun _ U o U' => ∃ v L, o = .returned v ∧ QR (some (.int vv)) h0 n0 v U'.heap L ∧ FrameEnd U o U' L ({ frames := 0, cells := 0, slots := 0, locals := 0 } : Room).cells ({ frames := 0, cells := 0, slots := 0, locals := 0 } : Room).slots) := by
  subst hv
  exact r2 l Z a0 hw ws p1 p2 h0 n0 Z0
theorem r1c (l : Launch) (Z : State) (a0 : Array Value) (hw : ∀ d ∈ tables_1, d.before a0 Z = true) (ws : List Jvm.Cond) (p1 p2 vv : Int32) (h0 : Heap) (n0 : Nat) (Z0 : n0 ≤ h0.size) (hv : own_min p1 p2 = vv) :
    MetFree l (⟨"java/lang/Math", "min", "(II)I"⟩ : MethodName) (head1 (Jvm.Cond.code (⟨"java/lang/Math", "min", "(II)I"⟩ : MethodName) jdk_29_method_69_code 2 (some .int) :: ws) ({ frames := 0, cells := 0, slots := 0, locals := 0 } : Room)) (fun a U => a = #[(.int p1), (.int p2)] ∧ Z.Warmed39 U.vm ∧ U.heap = h0) (fun _ _ _ _ _ => True) (fun _ U o U' => ∃ v L, o = .returned v ∧ QR (some (.int vv)) h0 n0 v U'.heap L ∧ FrameEnd U o U' L ({ frames := 0, cells := 0, slots := 0, locals := 0 } : Room).cells ({ frames := 0, cells := 0, slots := 0, locals := 0 } : Room).slots) := by
  subst hv
  exact r1 l Z a0 hw ws p1 p2 h0 n0 Z0
theorem d18_0 : decode jdk_48_method_27_code 0 = .ok (.iload_n 0, 1) := by decide +kernel
theorem d18_1 : decode jdk_48_method_27_code 1 = .ok (.iload_n 1, 1) := by decide +kernel
theorem d18_2 : decode jdk_48_method_27_code 2 = .ok (.iload_n 2, 1) := by decide +kernel
theorem d18_3 : decode jdk_48_method_27_code 3 = .ok (.invokestatic 194, 3) := by decide +kernel
theorem d18_6 : decode jdk_48_method_27_code 6 = .ok (.iadd, 1) := by decide +kernel
theorem d18_7 : decode jdk_48_method_27_code 7 = .ok (.istore_n 3, 1) := by decide +kernel
theorem d18_8 : decode jdk_48_method_27_code 8 = .ok (.iconst 0, 1) := by decide +kernel
theorem d18_9 : decode jdk_48_method_27_code 9 = .ok (.iload_n 3, 1) := by decide +kernel
theorem d18_10 : decode jdk_48_method_27_code 10 = .ok (.if_icmp .ge 11, 3) := by decide +kernel
theorem d18_13 : decode jdk_48_method_27_code 13 = .ok (.iload_n 3, 1) := by decide +kernel
theorem d18_14 : decode jdk_48_method_27_code 14 = .ok (.ldc 200, 2) := by decide +kernel
theorem d18_16 : decode jdk_48_method_27_code 16 = .ok (.if_icmp .gt 5, 3) := by decide +kernel
theorem d18_19 : decode jdk_48_method_27_code 19 = .ok (.iload_n 3, 1) := by decide +kernel
theorem d18_20 : decode jdk_48_method_27_code 20 = .ok (.ireturn, 1) := by decide +kernel
theorem pn_18 : plainName "jdk/internal/util/ArraysSupport" = true := by first | (simp [plainName, overriddenIn]; done) | decide +kernel
theorem pd_18_0 : parseMethodDescriptor "(II)I" = some ⟨[.int, .int], some .int⟩ := by decide +kernel
theorem ef_18 (m : MethodId) (x0 : Int32) (x1 : Int32) (x2 : Int32) : entryFrame m #[(.int x0), (.int x1), (.int x2)] 4 = mkF m 0 #[.val (.int x0), .val (.int x1), .val (.int x2), .unset] [] := by first | (simp [entryFrame, mkF, argsToLocals, Value.category]; done) | rfl
set_option maxRecDepth 65536 in
set_option maxHeartbeats 40000000 in
theorem r18 (l : Launch) (Z : State) (a0 : Array Value) (hw : ∀ d ∈ tables_1, d.before a0 Z = true) (ws : List Jvm.Cond) (p1 : Int32) (p2 : Int32) (p3 : Int32) (vv : Int32) (h0 : Heap) (n0 : Nat) (Z0 : n0 ≤ h0.size) (hm : own_max p2 p3 = vv) (hA : (0 : Int32) < (p1 + vv)) (hB : ¬ ((2147483639 : Int32) < (p1 + vv))) :
    MetFree l (⟨"jdk/internal/util/ArraysSupport", "newLength", "(III)I"⟩ : MethodName) (head1 (Jvm.Cond.code (⟨"jdk/internal/util/ArraysSupport", "newLength", "(III)I"⟩ : MethodName) jdk_48_method_27_code 4 (some .int) :: ws) ({ frames := 1, cells := 0, slots := 0, locals := 14 } : Room)) (fun a U => a = #[(.int p1), (.int p2), (.int p3)] ∧ Z.Warmed39 U.vm ∧ U.heap = h0) (fun _ _ _ _ _ => True) (fun _ U o U' => ∃ v L, o = .returned v ∧ QR (some (.int (p1 + vv))) h0 n0 v U'.heap L ∧ FrameEnd U o U' L ({ frames := 1, cells := 0, slots := 0, locals := 14 } : Room).cells ({ frames := 1, cells := 0, slots := 0, locals := 14 } : Room).slots) := by
  refine MetFree.of_bodySF (plainFor_of_name pn_18) hisR ?_
  intro p e s m args below meth c s₁ Bd hml0 hP hK
  obtain ⟨rfl, hZ, hh⟩ := hP
  have hx := Bd.exec
  have hby := Bd.bytes
  have hml : c.maxLocals = 4 := hml0
  have hown : s.vm.findClass "jdk/internal/util/ArraysSupport" = some m.cls := findClass_of_methodNamed Bd.named
  have hnm := (name_of_methodNamed Bd.named Bd.method).1
  have X0 : Stand p l e ({ frames := 1, cells := 0, slots := 0, locals := 14 } : Room) s m #[(.int p1), (.int p2), (.int p3)] below meth c s₁ [] 0 0 := Stand.of_body Bd
  have e0 : s₁.heap = h0 := by rw [← hh, Bd.state]; rfl
  have N0 := Fr.nil n0
  have pre0 : ∀ t, Steps p.tables e below (s₁.setTop (mkF m 0 #[.val (.int p1), .val (.int p2), .val (.int p3), .unset] [])) t → Steps p.tables e below (s₁.setTop (entryFrame m #[(.int p1), (.int p2), (.int p3)] 4)) t := fun t k => castTop (ef_18 m p1 p2 p3) k
  obtain ⟨_, _, ⟨T4, L4, k4, n4⟩, -, X4, ⟨Lc4, hQ4, l4, y4, z4⟩, st4⟩ := Jvm.LawKit.callS X0 hx (y := (⟨"java/lang/Math", "max", "(II)I"⟩ : MethodName)) hown (mvT hZ (hw _ (List.mem_of_getElem? (i := 112) rfl))) (mvT hZ (hw _ (List.mem_of_getElem? (i := 6) rfl))) (mvT hZ (hw _ (List.mem_of_getElem? (i := 3) rfl))) (mvT hZ (hw _ (List.mem_of_getElem? (i := 7) rfl))) (by decide) (backOf (W := 1) (r2c l Z a0 hw [] p2 p3 vv h0 n0 Z0 hm) hZ (hw _ (List.mem_of_getElem? (i := 7) rfl)) (hw _ (List.mem_of_getElem? (i := 3) rfl)) (by decide) (by decide)) (g := (mkF m 3 #[.val (.int p1), .val (.int p2), .val (.int p3), .unset] [(.int p3), (.int p2), (.int p1)])) rfl (by rw [hml]; rfl) (argsL := [(.int p2), (.int p3)]) (rest := [(.int p1)]) (lenOf pd_18_0 rfl) rfl (by show 2 * 0 + _ ≤ _; exact Nat.le_of_eq rfl) (hb hby d18_3) (fun _ _ => ⟨rfl, e0, (by decide : 0 + 0 ≤ _), (by decide : 0 + 0 ≤ _)⟩)
  dsimp only [Pt.U, Pt.locs, Pt.cells, Pt.slots] at X4 l4 y4 z4 st4 hQ4
  subst l4 y4 z4
  obtain ⟨rfl, N4q, e4⟩ := hQ4
  have N4 := Fr.app N0 N4q
  obtain ⟨fs, hr, hrun, hended, hW, hsame⟩ := X4.leave (v := some (.int (p1 + vv))) (fun h => by rw [Bd.returns] at h; cases h)
  refine ⟨_, _, pre0 _ ?_, hrun, hended, _, _, rfl, ?_, ⟨_, rfl⟩, hW, hsame.mono (by decide) (by decide)⟩
  · show Steps p.tables e below (s₁.setTop (mkF m 0 #[.val (.int p1), .val (.int p2), .val (.int p3), .unset] [])) _
    refine XS.iloadN X0.here hx rfl (hb hby d18_0) rfl ?_
    show Steps p.tables e below (s₁.setTop (mkF m 1 #[.val (.int p1), .val (.int p2), .val (.int p3), .unset] [(.int p1)])) _
    refine XS.iloadN X0.here hx rfl (hb hby d18_1) rfl ?_
    show Steps p.tables e below (s₁.setTop (mkF m 2 #[.val (.int p1), .val (.int p2), .val (.int p3), .unset] [(.int p2), (.int p1)])) _
    refine XS.iloadN X0.here hx rfl (hb hby d18_2) rfl ?_
    show Steps p.tables e below (s₁.setTop (mkF m 3 #[.val (.int p1), .val (.int p2), .val (.int p3), .unset] [(.int p3), (.int p2), (.int p1)])) _
    refine st4 _ ?_
    show Steps p.tables e below (T4.setTop (mkF m 6 #[.val (.int p1), .val (.int p2), .val (.int p3), .unset] [(.int vv), (.int p1)])) _
    refine XS.iadd X4.here hx rfl (hb hby d18_6) rfl ?_
    show Steps p.tables e below (T4.setTop (mkF m 7 #[.val (.int p1), .val (.int p2), .val (.int p3), .unset] [(.int (p1 + vv))])) _
    refine XS.istoreN X4.here hx rfl (hb hby d18_7) rfl (l' := #[.val (.int p1), .val (.int p2), .val (.int p3), .val (.int (p1 + vv))]) rfl ?_
    show Steps p.tables e below (T4.setTop (mkF m 8 #[.val (.int p1), .val (.int p2), .val (.int p3), .val (.int (p1 + vv))] [])) _
    refine XS.iconst X4.here hx rfl (hb hby d18_8) ?_
    show Steps p.tables e below (T4.setTop (mkF m 9 #[.val (.int p1), .val (.int p2), .val (.int p3), .val (.int (p1 + vv))] [(.int (0 : Int32))])) _
    refine XS.iloadN X4.here hx rfl (hb hby d18_9) rfl ?_
    show Steps p.tables e below (T4.setTop (mkF m 10 #[.val (.int p1), .val (.int p2), .val (.int p3), .val (.int (p1 + vv))] [(.int (p1 + vv)), (.int (0 : Int32))])) _
    refine XS.icmpNo X4.here hx rfl (hb hby d18_10) rfl (tlt (hA : (0 : Int32) < (p1 + vv))).2.1 ?_
    show Steps p.tables e below (T4.setTop (mkF m 13 #[.val (.int p1), .val (.int p2), .val (.int p3), .val (.int (p1 + vv))] [])) _
    refine XS.iloadN X4.here hx rfl (hb hby d18_13) rfl ?_
    show Steps p.tables e below (T4.setTop (mkF m 14 #[.val (.int p1), .val (.int p2), .val (.int p3), .val (.int (p1 + vv))] [(.int (p1 + vv))])) _
    refine X4.ldcInt hx hown (mvT hZ (hw _ (List.mem_of_getElem? (i := 113) rfl))) (g := (mkF m 14 #[.val (.int p1), .val (.int p2), .val (.int p3), .val (.int (p1 + vv))] [(.int (p1 + vv))])) rfl (hb hby d18_14) _ ?_
    show Steps p.tables e below (T4.setTop (mkF m 16 #[.val (.int p1), .val (.int p2), .val (.int p3), .val (.int (p1 + vv))] [(.int (2147483639 : Int32)), (.int (p1 + vv))])) _
    refine XS.icmpNo X4.here hx rfl (hb hby d18_16) rfl (flt (hB : ¬ ((2147483639 : Int32) < (p1 + vv)))).2.2.1 ?_
    show Steps p.tables e below (T4.setTop (mkF m 19 #[.val (.int p1), .val (.int p2), .val (.int p3), .val (.int (p1 + vv))] [])) _
    refine XS.iloadN X4.here hx rfl (hb hby d18_19) rfl ?_
    show Steps p.tables e below (T4.setTop (mkF m 20 #[.val (.int p1), .val (.int p2), .val (.int p3), .val (.int (p1 + vv))] [(.int (p1 + vv))])) _
    exact retI X4 hx Bd.returns (hb hby d18_20) hr
  · show QR (some (.int (p1 + vv))) h0 n0 _ T4.heap _
    rw [e4]
    exact ⟨rfl, N4, rfl⟩
theorem d17_0 : decode jdk_68_method_10_code 0 = .ok (.aload_n 0, 1) := by decide +kernel
theorem d17_1 : decode jdk_68_method_10_code 1 = .ok (.getfield 15, 3) := by decide +kernel
theorem d17_4 : decode jdk_68_method_10_code 4 = .ok (.arraylength, 1) := by decide +kernel
theorem d17_5 : decode jdk_68_method_10_code 5 = .ok (.istore_n 2, 1) := by decide +kernel
theorem d17_6 : decode jdk_68_method_10_code 6 = .ok (.iload_n 1, 1) := by decide +kernel
theorem d17_7 : decode jdk_68_method_10_code 7 = .ok (.aload_n 0, 1) := by decide +kernel
theorem d17_8 : decode jdk_68_method_10_code 8 = .ok (.getfield 22, 3) := by decide +kernel
theorem d17_11 : decode jdk_68_method_10_code 11 = .ok (.ishl, 1) := by decide +kernel
theorem d17_12 : decode jdk_68_method_10_code 12 = .ok (.istore_n 3, 1) := by decide +kernel
theorem d17_13 : decode jdk_68_method_10_code 13 = .ok (.iload_n 3, 1) := by decide +kernel
theorem d17_14 : decode jdk_68_method_10_code 14 = .ok (.iload_n 2, 1) := by decide +kernel
theorem d17_15 : decode jdk_68_method_10_code 15 = .ok (.isub, 1) := by decide +kernel
theorem d17_16 : decode jdk_68_method_10_code 16 = .ok (.istore 4, 2) := by decide +kernel
theorem d17_18 : decode jdk_68_method_10_code 18 = .ok (.iload_n 2, 1) := by decide +kernel
theorem d17_19 : decode jdk_68_method_10_code 19 = .ok (.iload 4, 2) := by decide +kernel
theorem d17_21 : decode jdk_68_method_10_code 21 = .ok (.iload_n 2, 1) := by decide +kernel
theorem d17_22 : decode jdk_68_method_10_code 22 = .ok (.iconst 2, 1) := by decide +kernel
theorem d17_23 : decode jdk_68_method_10_code 23 = .ok (.aload_n 0, 1) := by decide +kernel
theorem d17_24 : decode jdk_68_method_10_code 24 = .ok (.getfield 22, 3) := by decide +kernel
theorem d17_27 : decode jdk_68_method_10_code 27 = .ok (.ishl, 1) := by decide +kernel
theorem d17_28 : decode jdk_68_method_10_code 28 = .ok (.iadd, 1) := by decide +kernel
theorem d17_29 : decode jdk_68_method_10_code 29 = .ok (.invokestatic 114, 3) := by decide +kernel
theorem d17_32 : decode jdk_68_method_10_code 32 = .ok (.istore 5, 2) := by decide +kernel
theorem d17_34 : decode jdk_68_method_10_code 34 = .ok (.iload 5, 2) := by decide +kernel
theorem d17_36 : decode jdk_68_method_10_code 36 = .ok (.ldc 39, 2) := by decide +kernel
theorem d17_38 : decode jdk_68_method_10_code 38 = .ok (.if_icmp .ne 13, 3) := by decide +kernel
theorem d17_51 : decode jdk_68_method_10_code 51 = .ok (.iload 5, 2) := by decide +kernel
theorem d17_53 : decode jdk_68_method_10_code 53 = .ok (.aload_n 0, 1) := by decide +kernel
theorem d17_54 : decode jdk_68_method_10_code 54 = .ok (.getfield 22, 3) := by decide +kernel
theorem d17_57 : decode jdk_68_method_10_code 57 = .ok (.ishr, 1) := by decide +kernel
theorem d17_58 : decode jdk_68_method_10_code 58 = .ok (.ireturn, 1) := by decide +kernel
theorem pn_17 : plainName "java/lang/AbstractStringBuilder" = true := by first | (simp [plainName, overriddenIn]; done) | decide +kernel
theorem pd_17_14 : parseMethodDescriptor "(III)I" = some ⟨[.int, .int, .int], some .int⟩ := by decide +kernel
theorem ef_17 (m : MethodId) (x0 : Addr) (x1 : Int32) : entryFrame m #[(.ref x0), (.int x1)] 6 = mkF m 0 #[.val (.ref x0), .val (.int x1), .unset, .unset, .unset, .unset] [] := by first | (simp [entryFrame, mkF, argsToLocals, Value.category]; done) | rfl
set_option maxRecDepth 65536 in
set_option maxHeartbeats 40000000 in
theorem r17 (l : Launch) (Z : State) (a0 : Array Value) (hw : ∀ d ∈ tables_1, d.before a0 Z = true) (ws : List Jvm.Cond) (a1 : Addr) (w3 : Addr) (q : Nat) (kd : ClassId) (vd : List Value) (h0 : Heap) (n0 : Nat) (Z0 : n0 ≤ h0.size) (F_value_a1 : Fld Z h0 a1 "java/lang/AbstractStringBuilder" "value" "[B" (.ref w3)) (F_coder_a1 : Fld Z h0 a1 "java/lang/AbstractStringBuilder" "coder" "B" (.int (0 : Int32))) (B : Arv Z h0 w3 kd .byte (16 : Int32) vd (.int 0)) (hq : q = 20 ∨ q = 21) :
    MetFree l (⟨"java/lang/AbstractStringBuilder", "newCapacity", "(I)I"⟩ : MethodName) (head1 (Jvm.Cond.code (⟨"java/lang/AbstractStringBuilder", "newCapacity", "(I)I"⟩ : MethodName) jdk_68_method_10_code 6 (some .int) :: ws) ({ frames := 2, cells := 0, slots := 0, locals := 29 } : Room)) (fun a U => a = #[(.ref a1), (.int (Int32.ofNat q))] ∧ Z.Warmed39 U.vm ∧ U.heap = h0) (fun _ _ _ _ _ => True) (fun _ U o U' => ∃ v L, o = .returned v ∧ QR (some (.int (34 : Int32))) h0 n0 v U'.heap L ∧ FrameEnd U o U' L ({ frames := 2, cells := 0, slots := 0, locals := 29 } : Room).cells ({ frames := 2, cells := 0, slots := 0, locals := 29 } : Room).slots) := by
  refine MetFree.of_bodySF (plainFor_of_name pn_17) hisR ?_
  intro p e s m args below meth c s₁ Bd hml0 hP hK
  obtain ⟨rfl, hZ, hh⟩ := hP
  have hx := Bd.exec
  obtain ⟨cl_w3, Ar_w3, qb, S_w3, N_w3, Hb, Gb⟩ := id B
  have hm : own_max (((Int32.ofNat q) <<< ((0 : Int32) &&& 31)) - (16 : Int32)) ((16 : Int32) + ((2 : Int32) <<< ((0 : Int32) &&& 31))) = 18 := by rcases hq with rfl | rfl <;> decide +kernel
  have hby := Bd.bytes
  have hml : c.maxLocals = 6 := hml0
  have hown : s.vm.findClass "java/lang/AbstractStringBuilder" = some m.cls := findClass_of_methodNamed Bd.named
  have hnm := (name_of_methodNamed Bd.named Bd.method).1
  have X0 : Stand p l e ({ frames := 2, cells := 0, slots := 0, locals := 29 } : Room) s m #[(.ref a1), (.int (Int32.ofNat q))] below meth c s₁ [] 0 0 := Stand.of_body Bd
  have e0 : s₁.heap = h0 := by rw [← hh, Bd.state]; rfl
  have N0 := Fr.nil n0
  have pre0 : ∀ t, Steps p.tables e below (s₁.setTop (mkF m 0 #[.val (.ref a1), .val (.int (Int32.ofNat q)), .unset, .unset, .unset, .unset] [])) t → Steps p.tables e below (s₁.setTop (entryFrame m #[(.ref a1), (.int (Int32.ofNat q))] 6)) t := fun t k => castTop (ef_17 m a1 (Int32.ofNat q)) k
  obtain ⟨T4, X4, e4, st4⟩ := getF X0 hx hZ hown (host := "") (Or.inl (hw _ (List.mem_of_getElem? (i := 48) rfl))) Via.refl e0 F_value_a1 (g := (mkF m 1 #[.val (.ref a1), .val (.int (Int32.ofNat q)), .unset, .unset, .unset, .unset] [(.ref a1)])) rfl rfl (hb hby d17_1)
  obtain ⟨T6, X6, e6, st6⟩ := getF X4 hx hZ hown (host := "") (Or.inl (hw _ (List.mem_of_getElem? (i := 50) rfl))) Via.refl e4 F_coder_a1 (g := (mkF m 8 #[.val (.ref a1), .val (.int (Int32.ofNat q)), .val (.int (16 : Int32)), .unset, .unset, .unset] [(.ref a1), (.int (Int32.ofNat q))])) rfl rfl (hb hby d17_8)
  obtain ⟨T7, X7, e7, st7⟩ := getF X6 hx hZ hown (host := "") (Or.inl (hw _ (List.mem_of_getElem? (i := 50) rfl))) Via.refl e6 F_coder_a1 (g := (mkF m 24 #[.val (.ref a1), .val (.int (Int32.ofNat q)), .val (.int (16 : Int32)), .val (.int ((Int32.ofNat q) <<< ((0 : Int32) &&& 31))), .val (.int (((Int32.ofNat q) <<< ((0 : Int32) &&& 31)) - (16 : Int32))), .unset] [(.ref a1), (.int (2 : Int32)), (.int (16 : Int32)), (.int (((Int32.ofNat q) <<< ((0 : Int32) &&& 31)) - (16 : Int32))), (.int (16 : Int32))])) rfl rfl (hb hby d17_24)
  obtain ⟨_, _, ⟨T8, L8, k8, n8⟩, -, X8, ⟨Lc8, hQ8, l8, y8, z8⟩, st8⟩ := Jvm.LawKit.callS X7 hx (y := (⟨"jdk/internal/util/ArraysSupport", "newLength", "(III)I"⟩ : MethodName)) hown (mvT hZ (hw _ (List.mem_of_getElem? (i := 108) rfl))) (mvT hZ (hw _ (List.mem_of_getElem? (i := 109) rfl))) (mvT hZ (hw _ (List.mem_of_getElem? (i := 110) rfl))) (mvT hZ (hw _ (List.mem_of_getElem? (i := 111) rfl))) (by decide) (backOf (W := 0) (r18 l Z a0 hw [] (16 : Int32) (((Int32.ofNat q) <<< ((0 : Int32) &&& 31)) - (16 : Int32)) ((16 : Int32) + ((2 : Int32) <<< ((0 : Int32) &&& 31))) 18 h0 n0 Z0 hm (by decide) (by decide)) hZ (hw _ (List.mem_of_getElem? (i := 111) rfl)) (hw _ (List.mem_of_getElem? (i := 110) rfl)) (by decide) (by decide)) (g := (mkF m 29 #[.val (.ref a1), .val (.int (Int32.ofNat q)), .val (.int (16 : Int32)), .val (.int ((Int32.ofNat q) <<< ((0 : Int32) &&& 31))), .val (.int (((Int32.ofNat q) <<< ((0 : Int32) &&& 31)) - (16 : Int32))), .unset] [(.int ((16 : Int32) + ((2 : Int32) <<< ((0 : Int32) &&& 31)))), (.int (((Int32.ofNat q) <<< ((0 : Int32) &&& 31)) - (16 : Int32))), (.int (16 : Int32))])) rfl (by rw [hml]; rfl) (argsL := [(.int (16 : Int32)), (.int (((Int32.ofNat q) <<< ((0 : Int32) &&& 31)) - (16 : Int32))), (.int ((16 : Int32) + ((2 : Int32) <<< ((0 : Int32) &&& 31))))]) (rest := []) (lenOf pd_17_14 rfl) rfl (by show 2 * 0 + _ ≤ _; exact Nat.le_of_eq rfl) (hb hby d17_29) (fun _ _ => ⟨rfl, e7, (by decide : 0 + 0 ≤ _), (by decide : 0 + 0 ≤ _)⟩)
  dsimp only [Pt.U, Pt.locs, Pt.cells, Pt.slots] at X8 l8 y8 z8 st8 hQ8
  subst l8 y8 z8
  obtain ⟨rfl, N8q, e8⟩ := hQ8
  have N8 := Fr.app N0 N8q
  obtain ⟨T10, X10, e10, st10⟩ := getF X8 hx hZ hown (host := "") (Or.inl (hw _ (List.mem_of_getElem? (i := 50) rfl))) Via.refl e8 F_coder_a1 (g := (mkF m 54 #[.val (.ref a1), .val (.int (Int32.ofNat q)), .val (.int (16 : Int32)), .val (.int ((Int32.ofNat q) <<< ((0 : Int32) &&& 31))), .val (.int (((Int32.ofNat q) <<< ((0 : Int32) &&& 31)) - (16 : Int32))), .val (.int ((16 : Int32) + (18 : Int32)))] [(.ref a1), (.int ((16 : Int32) + (18 : Int32)))])) rfl rfl (hb hby d17_54)
  obtain ⟨fs, hr, hrun, hended, hW, hsame⟩ := X10.leave (v := some (.int (((16 : Int32) + (18 : Int32)) >>> ((0 : Int32) &&& 31)))) (fun h => by rw [Bd.returns] at h; cases h)
  refine ⟨_, _, pre0 _ ?_, hrun, hended, _, _, rfl, ?_, ⟨_, rfl⟩, hW, hsame.mono (by decide) (by decide)⟩
  · show Steps p.tables e below (s₁.setTop (mkF m 0 #[.val (.ref a1), .val (.int (Int32.ofNat q)), .unset, .unset, .unset, .unset] [])) _
    refine XS.aloadN X0.here hx rfl (hb hby d17_0) rfl rfl ?_
    show Steps p.tables e below (s₁.setTop (mkF m 1 #[.val (.ref a1), .val (.int (Int32.ofNat q)), .unset, .unset, .unset, .unset] [(.ref a1)])) _
    refine st4 _ ?_
    show Steps p.tables e below (T4.setTop (mkF m 4 #[.val (.ref a1), .val (.int (Int32.ofNat q)), .unset, .unset, .unset, .unset] [(.ref w3)])) _
    refine X4.arraylength hx (by rw [e4]; exact Ar_w3.1) (State.isArrayOf_alike hZ.alike Ar_w3.2.1) (g := (mkF m 4 #[.val (.ref a1), .val (.int (Int32.ofNat q)), .unset, .unset, .unset, .unset] [(.ref w3)])) rfl rfl (hb hby d17_4) _ ?_
    rw [len_of S_w3 N_w3]
    show Steps p.tables e below (T4.setTop (mkF m 5 #[.val (.ref a1), .val (.int (Int32.ofNat q)), .unset, .unset, .unset, .unset] [(.int (16 : Int32))])) _
    refine XS.istoreN X4.here hx rfl (hb hby d17_5) rfl (l' := #[.val (.ref a1), .val (.int (Int32.ofNat q)), .val (.int (16 : Int32)), .unset, .unset, .unset]) rfl ?_
    show Steps p.tables e below (T4.setTop (mkF m 6 #[.val (.ref a1), .val (.int (Int32.ofNat q)), .val (.int (16 : Int32)), .unset, .unset, .unset] [])) _
    refine XS.iloadN X4.here hx rfl (hb hby d17_6) rfl ?_
    show Steps p.tables e below (T4.setTop (mkF m 7 #[.val (.ref a1), .val (.int (Int32.ofNat q)), .val (.int (16 : Int32)), .unset, .unset, .unset] [(.int (Int32.ofNat q))])) _
    refine XS.aloadN X4.here hx rfl (hb hby d17_7) rfl rfl ?_
    show Steps p.tables e below (T4.setTop (mkF m 8 #[.val (.ref a1), .val (.int (Int32.ofNat q)), .val (.int (16 : Int32)), .unset, .unset, .unset] [(.ref a1), (.int (Int32.ofNat q))])) _
    refine st6 _ ?_
    show Steps p.tables e below (T6.setTop (mkF m 11 #[.val (.ref a1), .val (.int (Int32.ofNat q)), .val (.int (16 : Int32)), .unset, .unset, .unset] [(.int (0 : Int32)), (.int (Int32.ofNat q))])) _
    refine XS.ishl X6.here hx rfl (hb hby d17_11) rfl ?_
    show Steps p.tables e below (T6.setTop (mkF m 12 #[.val (.ref a1), .val (.int (Int32.ofNat q)), .val (.int (16 : Int32)), .unset, .unset, .unset] [(.int ((Int32.ofNat q) <<< ((0 : Int32) &&& 31)))])) _
    refine XS.istoreN X6.here hx rfl (hb hby d17_12) rfl (l' := #[.val (.ref a1), .val (.int (Int32.ofNat q)), .val (.int (16 : Int32)), .val (.int ((Int32.ofNat q) <<< ((0 : Int32) &&& 31))), .unset, .unset]) rfl ?_
    show Steps p.tables e below (T6.setTop (mkF m 13 #[.val (.ref a1), .val (.int (Int32.ofNat q)), .val (.int (16 : Int32)), .val (.int ((Int32.ofNat q) <<< ((0 : Int32) &&& 31))), .unset, .unset] [])) _
    refine XS.iloadN X6.here hx rfl (hb hby d17_13) rfl ?_
    show Steps p.tables e below (T6.setTop (mkF m 14 #[.val (.ref a1), .val (.int (Int32.ofNat q)), .val (.int (16 : Int32)), .val (.int ((Int32.ofNat q) <<< ((0 : Int32) &&& 31))), .unset, .unset] [(.int ((Int32.ofNat q) <<< ((0 : Int32) &&& 31)))])) _
    refine XS.iloadN X6.here hx rfl (hb hby d17_14) rfl ?_
    show Steps p.tables e below (T6.setTop (mkF m 15 #[.val (.ref a1), .val (.int (Int32.ofNat q)), .val (.int (16 : Int32)), .val (.int ((Int32.ofNat q) <<< ((0 : Int32) &&& 31))), .unset, .unset] [(.int (16 : Int32)), (.int ((Int32.ofNat q) <<< ((0 : Int32) &&& 31)))])) _
    refine XS.isub X6.here hx rfl (hb hby d17_15) rfl ?_
    show Steps p.tables e below (T6.setTop (mkF m 16 #[.val (.ref a1), .val (.int (Int32.ofNat q)), .val (.int (16 : Int32)), .val (.int ((Int32.ofNat q) <<< ((0 : Int32) &&& 31))), .unset, .unset] [(.int (((Int32.ofNat q) <<< ((0 : Int32) &&& 31)) - (16 : Int32)))])) _
    refine XS.istore X6.here hx rfl (hb hby d17_16) rfl (l' := #[.val (.ref a1), .val (.int (Int32.ofNat q)), .val (.int (16 : Int32)), .val (.int ((Int32.ofNat q) <<< ((0 : Int32) &&& 31))), .val (.int (((Int32.ofNat q) <<< ((0 : Int32) &&& 31)) - (16 : Int32))), .unset]) rfl ?_
    show Steps p.tables e below (T6.setTop (mkF m 18 #[.val (.ref a1), .val (.int (Int32.ofNat q)), .val (.int (16 : Int32)), .val (.int ((Int32.ofNat q) <<< ((0 : Int32) &&& 31))), .val (.int (((Int32.ofNat q) <<< ((0 : Int32) &&& 31)) - (16 : Int32))), .unset] [])) _
    refine XS.iloadN X6.here hx rfl (hb hby d17_18) rfl ?_
    show Steps p.tables e below (T6.setTop (mkF m 19 #[.val (.ref a1), .val (.int (Int32.ofNat q)), .val (.int (16 : Int32)), .val (.int ((Int32.ofNat q) <<< ((0 : Int32) &&& 31))), .val (.int (((Int32.ofNat q) <<< ((0 : Int32) &&& 31)) - (16 : Int32))), .unset] [(.int (16 : Int32))])) _
    refine XS.iload X6.here hx rfl (hb hby d17_19) rfl ?_
    show Steps p.tables e below (T6.setTop (mkF m 21 #[.val (.ref a1), .val (.int (Int32.ofNat q)), .val (.int (16 : Int32)), .val (.int ((Int32.ofNat q) <<< ((0 : Int32) &&& 31))), .val (.int (((Int32.ofNat q) <<< ((0 : Int32) &&& 31)) - (16 : Int32))), .unset] [(.int (((Int32.ofNat q) <<< ((0 : Int32) &&& 31)) - (16 : Int32))), (.int (16 : Int32))])) _
    refine XS.iloadN X6.here hx rfl (hb hby d17_21) rfl ?_
    show Steps p.tables e below (T6.setTop (mkF m 22 #[.val (.ref a1), .val (.int (Int32.ofNat q)), .val (.int (16 : Int32)), .val (.int ((Int32.ofNat q) <<< ((0 : Int32) &&& 31))), .val (.int (((Int32.ofNat q) <<< ((0 : Int32) &&& 31)) - (16 : Int32))), .unset] [(.int (16 : Int32)), (.int (((Int32.ofNat q) <<< ((0 : Int32) &&& 31)) - (16 : Int32))), (.int (16 : Int32))])) _
    refine XS.iconst X6.here hx rfl (hb hby d17_22) ?_
    show Steps p.tables e below (T6.setTop (mkF m 23 #[.val (.ref a1), .val (.int (Int32.ofNat q)), .val (.int (16 : Int32)), .val (.int ((Int32.ofNat q) <<< ((0 : Int32) &&& 31))), .val (.int (((Int32.ofNat q) <<< ((0 : Int32) &&& 31)) - (16 : Int32))), .unset] [(.int (2 : Int32)), (.int (16 : Int32)), (.int (((Int32.ofNat q) <<< ((0 : Int32) &&& 31)) - (16 : Int32))), (.int (16 : Int32))])) _
    refine XS.aloadN X6.here hx rfl (hb hby d17_23) rfl rfl ?_
    show Steps p.tables e below (T6.setTop (mkF m 24 #[.val (.ref a1), .val (.int (Int32.ofNat q)), .val (.int (16 : Int32)), .val (.int ((Int32.ofNat q) <<< ((0 : Int32) &&& 31))), .val (.int (((Int32.ofNat q) <<< ((0 : Int32) &&& 31)) - (16 : Int32))), .unset] [(.ref a1), (.int (2 : Int32)), (.int (16 : Int32)), (.int (((Int32.ofNat q) <<< ((0 : Int32) &&& 31)) - (16 : Int32))), (.int (16 : Int32))])) _
    refine st7 _ ?_
    show Steps p.tables e below (T7.setTop (mkF m 27 #[.val (.ref a1), .val (.int (Int32.ofNat q)), .val (.int (16 : Int32)), .val (.int ((Int32.ofNat q) <<< ((0 : Int32) &&& 31))), .val (.int (((Int32.ofNat q) <<< ((0 : Int32) &&& 31)) - (16 : Int32))), .unset] [(.int (0 : Int32)), (.int (2 : Int32)), (.int (16 : Int32)), (.int (((Int32.ofNat q) <<< ((0 : Int32) &&& 31)) - (16 : Int32))), (.int (16 : Int32))])) _
    refine XS.ishl X7.here hx rfl (hb hby d17_27) rfl ?_
    show Steps p.tables e below (T7.setTop (mkF m 28 #[.val (.ref a1), .val (.int (Int32.ofNat q)), .val (.int (16 : Int32)), .val (.int ((Int32.ofNat q) <<< ((0 : Int32) &&& 31))), .val (.int (((Int32.ofNat q) <<< ((0 : Int32) &&& 31)) - (16 : Int32))), .unset] [(.int ((2 : Int32) <<< ((0 : Int32) &&& 31))), (.int (16 : Int32)), (.int (((Int32.ofNat q) <<< ((0 : Int32) &&& 31)) - (16 : Int32))), (.int (16 : Int32))])) _
    refine XS.iadd X7.here hx rfl (hb hby d17_28) rfl ?_
    show Steps p.tables e below (T7.setTop (mkF m 29 #[.val (.ref a1), .val (.int (Int32.ofNat q)), .val (.int (16 : Int32)), .val (.int ((Int32.ofNat q) <<< ((0 : Int32) &&& 31))), .val (.int (((Int32.ofNat q) <<< ((0 : Int32) &&& 31)) - (16 : Int32))), .unset] [(.int ((16 : Int32) + ((2 : Int32) <<< ((0 : Int32) &&& 31)))), (.int (((Int32.ofNat q) <<< ((0 : Int32) &&& 31)) - (16 : Int32))), (.int (16 : Int32))])) _
    refine st8 _ ?_
    show Steps p.tables e below (T8.setTop (mkF m 32 #[.val (.ref a1), .val (.int (Int32.ofNat q)), .val (.int (16 : Int32)), .val (.int ((Int32.ofNat q) <<< ((0 : Int32) &&& 31))), .val (.int (((Int32.ofNat q) <<< ((0 : Int32) &&& 31)) - (16 : Int32))), .unset] [(.int ((16 : Int32) + (18 : Int32)))])) _
    refine XS.istore X8.here hx rfl (hb hby d17_32) rfl (l' := #[.val (.ref a1), .val (.int (Int32.ofNat q)), .val (.int (16 : Int32)), .val (.int ((Int32.ofNat q) <<< ((0 : Int32) &&& 31))), .val (.int (((Int32.ofNat q) <<< ((0 : Int32) &&& 31)) - (16 : Int32))), .val (.int ((16 : Int32) + (18 : Int32)))]) rfl ?_
    show Steps p.tables e below (T8.setTop (mkF m 34 #[.val (.ref a1), .val (.int (Int32.ofNat q)), .val (.int (16 : Int32)), .val (.int ((Int32.ofNat q) <<< ((0 : Int32) &&& 31))), .val (.int (((Int32.ofNat q) <<< ((0 : Int32) &&& 31)) - (16 : Int32))), .val (.int ((16 : Int32) + (18 : Int32)))] [])) _
    refine XS.iload X8.here hx rfl (hb hby d17_34) rfl ?_
    show Steps p.tables e below (T8.setTop (mkF m 36 #[.val (.ref a1), .val (.int (Int32.ofNat q)), .val (.int (16 : Int32)), .val (.int ((Int32.ofNat q) <<< ((0 : Int32) &&& 31))), .val (.int (((Int32.ofNat q) <<< ((0 : Int32) &&& 31)) - (16 : Int32))), .val (.int ((16 : Int32) + (18 : Int32)))] [(.int ((16 : Int32) + (18 : Int32)))])) _
    refine X8.ldcInt hx hown (mvT hZ (hw _ (List.mem_of_getElem? (i := 114) rfl))) (g := (mkF m 36 #[.val (.ref a1), .val (.int (Int32.ofNat q)), .val (.int (16 : Int32)), .val (.int ((Int32.ofNat q) <<< ((0 : Int32) &&& 31))), .val (.int (((Int32.ofNat q) <<< ((0 : Int32) &&& 31)) - (16 : Int32))), .val (.int ((16 : Int32) + (18 : Int32)))] [(.int ((16 : Int32) + (18 : Int32)))])) rfl (hb hby d17_36) _ ?_
    show Steps p.tables e below (T8.setTop (mkF m 38 #[.val (.ref a1), .val (.int (Int32.ofNat q)), .val (.int (16 : Int32)), .val (.int ((Int32.ofNat q) <<< ((0 : Int32) &&& 31))), .val (.int (((Int32.ofNat q) <<< ((0 : Int32) &&& 31)) - (16 : Int32))), .val (.int ((16 : Int32) + (18 : Int32)))] [(.int (2147483647 : Int32)), (.int ((16 : Int32) + (18 : Int32)))])) _
    refine XS.icmpYes X8.here hx rfl (pc0 := 38) (pc' := 51) rfl (hb hby d17_38) rfl (feq (by decide : ¬ (((16 : Int32) + (18 : Int32)) = (2147483647 : Int32)))).2 (by decide) (by decide) ?_
    show Steps p.tables e below (T8.setTop (mkF m 51 #[.val (.ref a1), .val (.int (Int32.ofNat q)), .val (.int (16 : Int32)), .val (.int ((Int32.ofNat q) <<< ((0 : Int32) &&& 31))), .val (.int (((Int32.ofNat q) <<< ((0 : Int32) &&& 31)) - (16 : Int32))), .val (.int ((16 : Int32) + (18 : Int32)))] [])) _
    refine XS.iload X8.here hx rfl (hb hby d17_51) rfl ?_
    show Steps p.tables e below (T8.setTop (mkF m 53 #[.val (.ref a1), .val (.int (Int32.ofNat q)), .val (.int (16 : Int32)), .val (.int ((Int32.ofNat q) <<< ((0 : Int32) &&& 31))), .val (.int (((Int32.ofNat q) <<< ((0 : Int32) &&& 31)) - (16 : Int32))), .val (.int ((16 : Int32) + (18 : Int32)))] [(.int ((16 : Int32) + (18 : Int32)))])) _
    refine XS.aloadN X8.here hx rfl (hb hby d17_53) rfl rfl ?_
    show Steps p.tables e below (T8.setTop (mkF m 54 #[.val (.ref a1), .val (.int (Int32.ofNat q)), .val (.int (16 : Int32)), .val (.int ((Int32.ofNat q) <<< ((0 : Int32) &&& 31))), .val (.int (((Int32.ofNat q) <<< ((0 : Int32) &&& 31)) - (16 : Int32))), .val (.int ((16 : Int32) + (18 : Int32)))] [(.ref a1), (.int ((16 : Int32) + (18 : Int32)))])) _
    refine st10 _ ?_
    show Steps p.tables e below (T10.setTop (mkF m 57 #[.val (.ref a1), .val (.int (Int32.ofNat q)), .val (.int (16 : Int32)), .val (.int ((Int32.ofNat q) <<< ((0 : Int32) &&& 31))), .val (.int (((Int32.ofNat q) <<< ((0 : Int32) &&& 31)) - (16 : Int32))), .val (.int ((16 : Int32) + (18 : Int32)))] [(.int (0 : Int32)), (.int ((16 : Int32) + (18 : Int32)))])) _
    refine XS.ishr X10.here hx rfl (hb hby d17_57) rfl ?_
    show Steps p.tables e below (T10.setTop (mkF m 58 #[.val (.ref a1), .val (.int (Int32.ofNat q)), .val (.int (16 : Int32)), .val (.int ((Int32.ofNat q) <<< ((0 : Int32) &&& 31))), .val (.int (((Int32.ofNat q) <<< ((0 : Int32) &&& 31)) - (16 : Int32))), .val (.int ((16 : Int32) + (18 : Int32)))] [(.int (((16 : Int32) + (18 : Int32)) >>> ((0 : Int32) &&& 31)))])) _
    exact retI X10 hx Bd.returns (hb hby d17_58) hr
  · show QR (some (.int (34 : Int32))) h0 n0 _ T10.heap _
    rw [e10]
    exact ⟨by decide, N8, rfl⟩
theorem d19_0 : decode jdk_65_method_121_code 0 = .ok (.iload_n 1, 1) := by decide +kernel
theorem d19_1 : decode jdk_65_method_121_code 1 = .ok (.aload_n 0, 1) := by decide +kernel
theorem d19_2 : decode jdk_65_method_121_code 2 = .ok (.arraylength, 1) := by decide +kernel
theorem d19_3 : decode jdk_65_method_121_code 3 = .ok (.if_icmp .ne 11, 3) := by decide +kernel
theorem d19_14 : decode jdk_65_method_121_code 14 = .ok (.iload_n 1, 1) := by decide +kernel
theorem d19_15 : decode jdk_65_method_121_code 15 = .ok (.newarray .byte, 2) := by decide +kernel
theorem d19_17 : decode jdk_65_method_121_code 17 = .ok (.astore_n 2, 1) := by decide +kernel
theorem d19_18 : decode jdk_65_method_121_code 18 = .ok (.aload_n 0, 1) := by decide +kernel
theorem d19_19 : decode jdk_65_method_121_code 19 = .ok (.iconst 0, 1) := by decide +kernel
theorem d19_20 : decode jdk_65_method_121_code 20 = .ok (.aload_n 2, 1) := by decide +kernel
theorem d19_21 : decode jdk_65_method_121_code 21 = .ok (.iconst 0, 1) := by decide +kernel
theorem d19_22 : decode jdk_65_method_121_code 22 = .ok (.aload_n 0, 1) := by decide +kernel
theorem d19_23 : decode jdk_65_method_121_code 23 = .ok (.arraylength, 1) := by decide +kernel
theorem d19_24 : decode jdk_65_method_121_code 24 = .ok (.iload_n 1, 1) := by decide +kernel
theorem d19_25 : decode jdk_65_method_121_code 25 = .ok (.invokestatic 304, 3) := by decide +kernel
theorem d19_28 : decode jdk_65_method_121_code 28 = .ok (.invokestatic 150, 3) := by decide +kernel
theorem d19_31 : decode jdk_65_method_121_code 31 = .ok (.aload_n 2, 1) := by decide +kernel
theorem d19_32 : decode jdk_65_method_121_code 32 = .ok (.areturn, 1) := by decide +kernel
theorem pn_19 : plainName "java/util/Arrays" = true := by first | (simp [plainName, overriddenIn]; done) | decide +kernel
theorem pd_19_0 : parseMethodDescriptor "(II)I" = some ⟨[.int, .int], some .int⟩ := by decide +kernel
theorem pd_19_12 : parseMethodDescriptor "(Ljava/lang/Object;ILjava/lang/Object;II)V" = some ⟨[(.object "java/lang/Object"), .int, (.object "java/lang/Object"), .int, .int], none⟩ := by decide +kernel
theorem ef_19 (m : MethodId) (x0 : Addr) (x1 : Int32) : entryFrame m #[(.ref x0), (.int x1)] 3 = mkF m 0 #[.val (.ref x0), .val (.int x1), .unset] [] := by first | (simp [entryFrame, mkF, argsToLocals, Value.category]; done) | rfl
def Q19 (Z : State) (c : Nat) (h0 : Heap) (n0 : Nat) (v : Option Value) (h : Heap) (L : List Loc) : Prop := v = some (.ref h0.size) ∧ Fr n0 L ∧ Keep h0 h [] ∧ ∃ (k : ClassId) (vs : List Value), Arv Z h h0.size k .byte (Int32.ofNat c) vs (.int 0) ∧ vs.length = c
set_option maxRecDepth 65536 in
set_option maxHeartbeats 40000000 in
theorem r19 (l : Launch) (Z : State) (a0 : Array Value) (hw : ∀ d ∈ tables_1, d.before a0 Z = true) (ws : List Jvm.Cond) (a1 : Addr) (kd : ClassId) (vd : List Value) (h0 : Heap) (n0 : Nat) (Z0 : n0 ≤ h0.size) (B : Arv Z h0 a1 kd .byte (16 : Int32) vd (.int 0)) :
    MetFree l (⟨"java/util/Arrays", "copyOf", "([BI)[B"⟩ : MethodName) (head1 (Jvm.Cond.code (⟨"java/util/Arrays", "copyOf", "([BI)[B"⟩ : MethodName) jdk_65_method_121_code 3 (some (.array .byte)) :: ws) ({ frames := 1, cells := 1, slots := 34, locals := 18 } : Room)) (fun a U => a = #[(.ref a1), (.int (34 : Int32))] ∧ Z.Warmed39 U.vm ∧ U.heap = h0) (fun _ _ _ _ _ => True) (fun _ U o U' => ∃ v L, o = .returned v ∧ Q19 Z 34 h0 n0 v U'.heap L ∧ FrameEnd U o U' L ({ frames := 1, cells := 1, slots := 34, locals := 18 } : Room).cells ({ frames := 1, cells := 1, slots := 34, locals := 18 } : Room).slots) := by
  refine MetFree.of_bodySF (plainFor_of_name pn_19) hisR ?_
  intro p e s m args below meth c s₁ Bd hml0 hP hK
  obtain ⟨rfl, hZ, hh⟩ := hP
  have hx := Bd.exec
  obtain ⟨cl_a1, Ar_a1, qb, S_a1, N_a1, Hb, Gb⟩ := id B
  have hc3 : ¬ ((34 : Int32) = (16 : Int32)) := by decide
  have hby := Bd.bytes
  have hml : c.maxLocals = 3 := hml0
  have hown : s.vm.findClass "java/util/Arrays" = some m.cls := findClass_of_methodNamed Bd.named
  have hnm := (name_of_methodNamed Bd.named Bd.method).1
  have X0 : Stand p l e ({ frames := 1, cells := 1, slots := 34, locals := 18 } : Room) s m #[(.ref a1), (.int (34 : Int32))] below meth c s₁ [] 0 0 := Stand.of_body Bd
  have e0 : s₁.heap = h0 := by rw [← hh, Bd.state]; rfl
  have N0 := Fr.nil n0
  have pre0 : ∀ t, Steps p.tables e below (s₁.setTop (mkF m 0 #[.val (.ref a1), .val (.int (34 : Int32)), .unset] [])) t → Steps p.tables e below (s₁.setTop (entryFrame m #[(.ref a1), (.int (34 : Int32))] 3)) t := fun t k => castTop (ef_19 m a1 (34 : Int32)) k
  obtain ⟨T3, h3, k3, X3, e3, E3, A3, st3⟩ := newP X0 hx hZ (hw _ (List.mem_of_getElem? (i := 26) rfl)) e0 (g := (mkF m 15 #[.val (.ref a1), .val (.int (34 : Int32)), .unset] [(.int (34 : Int32))])) rfl (hb hby d19_15) rfl (by decide) (cap := 34) (by decide) (by decide) (by decide) (by decide)
  obtain ⟨b3, g3⟩ : ∃ z, z = h0.size := ⟨_, rfl⟩
  rw [← g3] at A3 st3
  have V_b3 : Arv Z h3 b3 k3 .byte (34 : Int32) [(.int (0 : Int32)), (.int (0 : Int32)), (.int (0 : Int32)), (.int (0 : Int32)), (.int (0 : Int32)), (.int (0 : Int32)), (.int (0 : Int32)), (.int (0 : Int32)), (.int (0 : Int32)), (.int (0 : Int32)), (.int (0 : Int32)), (.int (0 : Int32)), (.int (0 : Int32)), (.int (0 : Int32)), (.int (0 : Int32)), (.int (0 : Int32)), (.int (0 : Int32)), (.int (0 : Int32)), (.int (0 : Int32)), (.int (0 : Int32)), (.int (0 : Int32)), (.int (0 : Int32)), (.int (0 : Int32)), (.int (0 : Int32)), (.int (0 : Int32)), (.int (0 : Int32)), (.int (0 : Int32)), (.int (0 : Int32)), (.int (0 : Int32)), (.int (0 : Int32)), (.int (0 : Int32)), (.int (0 : Int32)), (.int (0 : Int32)), (.int (0 : Int32))] (.int (0 : Int32)) := (Arv.new A3 (by decide)).pad (pad_rep [] (.int (0 : Int32)) 34)
  have g_b3 : n0 ≤ b3 := Nat.le_trans Z0 (Nat.le_of_eq g3.symm)
  have sz_b3 : h0.size ≤ b3 := (Nat.le_trans (Keep.refl h0 []).1 (Nat.le_of_eq g3.symm))
  have K3 : Keep h0 h3 [] := (Keep.refl h0 []).ext E3
  obtain ⟨_, _, ⟨T4, L4, k4, n4⟩, -, X4, ⟨Lc4, hQ4, l4, y4, z4⟩, st4⟩ := Jvm.LawKit.callS X3 hx (y := (⟨"java/lang/Math", "min", "(II)I"⟩ : MethodName)) hown (mvT hZ (hw _ (List.mem_of_getElem? (i := 119) rfl))) (mvT hZ (hw _ (List.mem_of_getElem? (i := 2) rfl))) (mvT hZ (hw _ (List.mem_of_getElem? (i := 3) rfl))) (mvT hZ (hw _ (List.mem_of_getElem? (i := 4) rfl))) (by decide) (backOf (W := 4) (r1c l Z a0 hw [] (16 : Int32) (34 : Int32) (16 : Int32) h3 n0 (Nat.le_trans Z0 E3.1) (by decide)) hZ (hw _ (List.mem_of_getElem? (i := 4) rfl)) (hw _ (List.mem_of_getElem? (i := 3) rfl)) (by decide) (by decide)) (g := (mkF m 25 #[.val (.ref a1), .val (.int (34 : Int32)), .val (.ref b3)] [(.int (34 : Int32)), (.int (16 : Int32)), (.int (0 : Int32)), (.ref b3), (.int (0 : Int32)), (.ref a1)])) rfl (by rw [hml]; rfl) (argsL := [(.int (16 : Int32)), (.int (34 : Int32))]) (rest := [(.int (0 : Int32)), (.ref b3), (.int (0 : Int32)), (.ref a1)]) (lenOf pd_19_0 rfl) rfl (by show 2 * 0 + _ ≤ _; exact Nat.le_of_eq rfl) (hb hby d19_25) (fun _ _ => ⟨rfl, e3, (by decide : 1 + 0 ≤ _), (by decide : 34 + 0 ≤ _)⟩)
  dsimp only [Pt.U, Pt.locs, Pt.cells, Pt.slots] at X4 l4 y4 z4 st4 hQ4
  subst l4 y4 z4
  obtain ⟨rfl, N4q, e4⟩ := hQ4
  have N4 := Fr.app N0 N4q
  obtain ⟨T5, h5, L5, X5, e5, N5, K5, V5, st5⟩ := cpA X4 hx hZ hown (hw _ (List.mem_of_getElem? (i := 120) rfl)) (hw _ (List.mem_of_getElem? (i := 101) rfl)) (hw _ (List.mem_of_getElem? (i := 99) rfl)) (hw _ (List.mem_of_getElem? (i := 100) rfl)) e4 (B.ext E3) V_b3 (Or.inl ⟨rfl, rfl⟩) (by decide) (by decide) (by decide) (by decide) (by decide) rfl (by decide) N4 g_b3 (g := (mkF m 28 #[.val (.ref a1), .val (.int (34 : Int32)), .val (.ref b3)] [(.int (16 : Int32)), (.int (0 : Int32)), (.ref b3), (.int (0 : Int32)), (.ref a1)])) rfl (by rw [hml]; rfl) (rest := []) rfl (hb hby d19_28) (by decide) (W := 0) (by show 2 * 0 + _ ≤ _; exact Nat.le_of_eq rfl) (by decide)
  obtain ⟨fs, hr, hrun, hended, hW, hsame⟩ := X5.leave (v := some (.ref b3)) (fun h => by rw [Bd.returns] at h; cases h)
  refine ⟨_, _, pre0 _ ?_, hrun, hended, _, _, rfl, ?_, ⟨_, rfl⟩, hW, hsame.mono (by decide) (by decide)⟩
  · show Steps p.tables e below (s₁.setTop (mkF m 0 #[.val (.ref a1), .val (.int (34 : Int32)), .unset] [])) _
    refine XS.iloadN X0.here hx rfl (hb hby d19_0) rfl ?_
    show Steps p.tables e below (s₁.setTop (mkF m 1 #[.val (.ref a1), .val (.int (34 : Int32)), .unset] [(.int (34 : Int32))])) _
    refine XS.aloadN X0.here hx rfl (hb hby d19_1) rfl rfl ?_
    show Steps p.tables e below (s₁.setTop (mkF m 2 #[.val (.ref a1), .val (.int (34 : Int32)), .unset] [(.ref a1), (.int (34 : Int32))])) _
    refine X0.arraylength hx (by rw [e0]; exact Ar_a1.1) (State.isArrayOf_alike hZ.alike Ar_a1.2.1) (g := (mkF m 2 #[.val (.ref a1), .val (.int (34 : Int32)), .unset] [(.ref a1), (.int (34 : Int32))])) rfl rfl (hb hby d19_2) _ ?_
    rw [len_of S_a1 N_a1]
    show Steps p.tables e below (s₁.setTop (mkF m 3 #[.val (.ref a1), .val (.int (34 : Int32)), .unset] [(.int (16 : Int32)), (.int (34 : Int32))])) _
    refine XS.icmpYes X0.here hx rfl (pc0 := 3) (pc' := 14) rfl (hb hby d19_3) rfl (feq hc3).2 (by decide) (by decide) ?_
    show Steps p.tables e below (s₁.setTop (mkF m 14 #[.val (.ref a1), .val (.int (34 : Int32)), .unset] [])) _
    refine XS.iloadN X0.here hx rfl (hb hby d19_14) rfl ?_
    show Steps p.tables e below (s₁.setTop (mkF m 15 #[.val (.ref a1), .val (.int (34 : Int32)), .unset] [(.int (34 : Int32))])) _
    refine st3 _ ?_
    show Steps p.tables e below (T3.setTop (mkF m 17 #[.val (.ref a1), .val (.int (34 : Int32)), .unset] [(.ref b3)])) _
    refine XS.astoreN X3.here hx rfl (hb hby d19_17) rfl rfl (l' := #[.val (.ref a1), .val (.int (34 : Int32)), .val (.ref b3)]) rfl ?_
    show Steps p.tables e below (T3.setTop (mkF m 18 #[.val (.ref a1), .val (.int (34 : Int32)), .val (.ref b3)] [])) _
    refine XS.aloadN X3.here hx rfl (hb hby d19_18) rfl rfl ?_
    show Steps p.tables e below (T3.setTop (mkF m 19 #[.val (.ref a1), .val (.int (34 : Int32)), .val (.ref b3)] [(.ref a1)])) _
    refine XS.iconst X3.here hx rfl (hb hby d19_19) ?_
    show Steps p.tables e below (T3.setTop (mkF m 20 #[.val (.ref a1), .val (.int (34 : Int32)), .val (.ref b3)] [(.int (0 : Int32)), (.ref a1)])) _
    refine XS.aloadN X3.here hx rfl (hb hby d19_20) rfl rfl ?_
    show Steps p.tables e below (T3.setTop (mkF m 21 #[.val (.ref a1), .val (.int (34 : Int32)), .val (.ref b3)] [(.ref b3), (.int (0 : Int32)), (.ref a1)])) _
    refine XS.iconst X3.here hx rfl (hb hby d19_21) ?_
    show Steps p.tables e below (T3.setTop (mkF m 22 #[.val (.ref a1), .val (.int (34 : Int32)), .val (.ref b3)] [(.int (0 : Int32)), (.ref b3), (.int (0 : Int32)), (.ref a1)])) _
    refine XS.aloadN X3.here hx rfl (hb hby d19_22) rfl rfl ?_
    show Steps p.tables e below (T3.setTop (mkF m 23 #[.val (.ref a1), .val (.int (34 : Int32)), .val (.ref b3)] [(.ref a1), (.int (0 : Int32)), (.ref b3), (.int (0 : Int32)), (.ref a1)])) _
    refine X3.arraylength hx (by rw [e3]; exact (Ar_a1.ext E3).1) (State.isArrayOf_alike hZ.alike Ar_a1.2.1) (g := (mkF m 23 #[.val (.ref a1), .val (.int (34 : Int32)), .val (.ref b3)] [(.ref a1), (.int (0 : Int32)), (.ref b3), (.int (0 : Int32)), (.ref a1)])) rfl rfl (hb hby d19_23) _ ?_
    rw [len_of S_a1 N_a1]
    show Steps p.tables e below (T3.setTop (mkF m 24 #[.val (.ref a1), .val (.int (34 : Int32)), .val (.ref b3)] [(.int (16 : Int32)), (.int (0 : Int32)), (.ref b3), (.int (0 : Int32)), (.ref a1)])) _
    refine XS.iloadN X3.here hx rfl (hb hby d19_24) rfl ?_
    show Steps p.tables e below (T3.setTop (mkF m 25 #[.val (.ref a1), .val (.int (34 : Int32)), .val (.ref b3)] [(.int (34 : Int32)), (.int (16 : Int32)), (.int (0 : Int32)), (.ref b3), (.int (0 : Int32)), (.ref a1)])) _
    refine st4 _ ?_
    show Steps p.tables e below (T4.setTop (mkF m 28 #[.val (.ref a1), .val (.int (34 : Int32)), .val (.ref b3)] [(.int (16 : Int32)), (.int (0 : Int32)), (.ref b3), (.int (0 : Int32)), (.ref a1)])) _
    refine st5 _ ?_
    show Steps p.tables e below (T5.setTop (mkF m 31 #[.val (.ref a1), .val (.int (34 : Int32)), .val (.ref b3)] [])) _
    refine XS.aloadN X5.here hx rfl (hb hby d19_31) rfl rfl ?_
    show Steps p.tables e below (T5.setTop (mkF m 32 #[.val (.ref a1), .val (.int (34 : Int32)), .val (.ref b3)] [(.ref b3)])) _
    jvm_step X5.here [X5.here.top, hx, (hb hby d19_32), X5.method', Bd.returns, Value.isRef, FieldType.isReference]
    first | (intro acts; rw [hr _ acts rfl rfl rfl]) | rw [hr _ _ rfl rfl rfl]
    exact Steps.refl _
  · show Q19 Z 34 h0 n0 _ T5.heap _
    rw [e5]
    refine ⟨by rw [g3], N5, K3.trans K5 (allS (Or.inr sz_b3) all0), k3, _, by rw [← g3]; exact V5, ?_⟩
    simp
theorem d13_0 : decode jdk_68_method_9_code 0 = .ok (.aload_n 0, 1) := by decide +kernel
theorem d13_1 : decode jdk_68_method_9_code 1 = .ok (.getfield 15, 3) := by decide +kernel
theorem d13_4 : decode jdk_68_method_9_code 4 = .ok (.arraylength, 1) := by decide +kernel
theorem d13_5 : decode jdk_68_method_9_code 5 = .ok (.aload_n 0, 1) := by decide +kernel
theorem d13_6 : decode jdk_68_method_9_code 6 = .ok (.getfield 22, 3) := by decide +kernel
theorem d13_9 : decode jdk_68_method_9_code 9 = .ok (.ishr, 1) := by decide +kernel
theorem d13_10 : decode jdk_68_method_9_code 10 = .ok (.istore_n 2, 1) := by decide +kernel
theorem d13_11 : decode jdk_68_method_9_code 11 = .ok (.iload_n 1, 1) := by decide +kernel
theorem d13_12 : decode jdk_68_method_9_code 12 = .ok (.iload_n 2, 1) := by decide +kernel
theorem d13_13 : decode jdk_68_method_9_code 13 = .ok (.isub, 1) := by decide +kernel
theorem d13_14 : decode jdk_68_method_9_code 14 = .ok (.ifCond .le 24, 3) := by decide +kernel
theorem d13_38 : decode jdk_68_method_9_code 38 = .ok (.return_, 1) := by decide +kernel
theorem pn_13 : plainName "java/lang/AbstractStringBuilder" = true := by first | (simp [plainName, overriddenIn]; done) | decide +kernel
theorem ef_13 (m : MethodId) (x0 : Addr) (x1 : Int32) : entryFrame m #[(.ref x0), (.int x1)] 3 = mkF m 0 #[.val (.ref x0), .val (.int x1), .unset] [] := by first | (simp [entryFrame, mkF, argsToLocals, Value.category]; done) | rfl
set_option maxRecDepth 65536 in
set_option maxHeartbeats 40000000 in
theorem r13n (l : Launch) (Z : State) (a0 : Array Value) (hw : ∀ d ∈ tables_1, d.before a0 Z = true) (ws : List Jvm.Cond) (a1 : Addr) (w3 : Addr) (kd : ClassId) (vd : List Value) (h0 : Heap) (n0 : Nat) (Z0 : n0 ≤ h0.size) (F_value_a1 : Fld Z h0 a1 "java/lang/AbstractStringBuilder" "value" "[B" (.ref w3)) (F_coder_a1 : Fld Z h0 a1 "java/lang/AbstractStringBuilder" "coder" "B" (.int (0 : Int32))) (B : Arv Z h0 w3 kd .byte (16 : Int32) vd (.int 0)) :
    MetFree l (⟨"java/lang/AbstractStringBuilder", "ensureCapacityInternal", "(I)V"⟩ : MethodName) (head1 (Jvm.Cond.code (⟨"java/lang/AbstractStringBuilder", "ensureCapacityInternal", "(I)V"⟩ : MethodName) jdk_68_method_9_code 3 none :: ws) ({ frames := 0, cells := 0, slots := 0, locals := 0 } : Room)) (fun a U => a = #[(.ref a1), (.int (3 : Int32))] ∧ Z.Warmed39 U.vm ∧ U.heap = h0) (fun _ _ _ _ _ => True) (fun _ U o U' => ∃ v L, o = .returned v ∧ QR none h0 n0 v U'.heap L ∧ FrameEnd U o U' L ({ frames := 0, cells := 0, slots := 0, locals := 0 } : Room).cells ({ frames := 0, cells := 0, slots := 0, locals := 0 } : Room).slots) := by
  refine MetFree.of_bodySF (plainFor_of_name pn_13) hisR ?_
  intro p e s m args below meth c s₁ Bd hml0 hP hK
  obtain ⟨rfl, hZ, hh⟩ := hP
  have hx := Bd.exec
  obtain ⟨cl_w3, Ar_w3, qb, S_w3, N_w3, Hb, Gb⟩ := id B
  have hc14 : ¬ ((0 : Int32) < ((3 : Int32) - ((16 : Int32) >>> ((0 : Int32) &&& 31)))) := by decide
  have hby := Bd.bytes
  have hml : c.maxLocals = 3 := hml0
  have hown : s.vm.findClass "java/lang/AbstractStringBuilder" = some m.cls := findClass_of_methodNamed Bd.named
  have hnm := (name_of_methodNamed Bd.named Bd.method).1
  have X0 : Stand p l e ({ frames := 0, cells := 0, slots := 0, locals := 0 } : Room) s m #[(.ref a1), (.int (3 : Int32))] below meth c s₁ [] 0 0 := Stand.of_body Bd
  have e0 : s₁.heap = h0 := by rw [← hh, Bd.state]; rfl
  have N0 := Fr.nil n0
  have pre0 : ∀ t, Steps p.tables e below (s₁.setTop (mkF m 0 #[.val (.ref a1), .val (.int (3 : Int32)), .unset] [])) t → Steps p.tables e below (s₁.setTop (entryFrame m #[(.ref a1), (.int (3 : Int32))] 3)) t := fun t k => castTop (ef_13 m a1 (3 : Int32)) k
  obtain ⟨T4, X4, e4, st4⟩ := getF X0 hx hZ hown (host := "") (Or.inl (hw _ (List.mem_of_getElem? (i := 48) rfl))) Via.refl e0 F_value_a1 (g := (mkF m 1 #[.val (.ref a1), .val (.int (3 : Int32)), .unset] [(.ref a1)])) rfl rfl (hb hby d13_1)
  obtain ⟨T6, X6, e6, st6⟩ := getF X4 hx hZ hown (host := "") (Or.inl (hw _ (List.mem_of_getElem? (i := 50) rfl))) Via.refl e4 F_coder_a1 (g := (mkF m 6 #[.val (.ref a1), .val (.int (3 : Int32)), .unset] [(.ref a1), (.int (16 : Int32))])) rfl rfl (hb hby d13_6)
  obtain ⟨fs, hr, hrun, hended, hW, hsame⟩ := X6.leave (v := none) (fun _ => rfl)
  refine ⟨_, _, pre0 _ ?_, hrun, hended, _, _, rfl, ?_, ⟨_, rfl⟩, hW, hsame.mono (by decide) (by decide)⟩
  · show Steps p.tables e below (s₁.setTop (mkF m 0 #[.val (.ref a1), .val (.int (3 : Int32)), .unset] [])) _
    refine XS.aloadN X0.here hx rfl (hb hby d13_0) rfl rfl ?_
    show Steps p.tables e below (s₁.setTop (mkF m 1 #[.val (.ref a1), .val (.int (3 : Int32)), .unset] [(.ref a1)])) _
    refine st4 _ ?_
    show Steps p.tables e below (T4.setTop (mkF m 4 #[.val (.ref a1), .val (.int (3 : Int32)), .unset] [(.ref w3)])) _
    refine X4.arraylength hx (by rw [e4]; exact Ar_w3.1) (State.isArrayOf_alike hZ.alike Ar_w3.2.1) (g := (mkF m 4 #[.val (.ref a1), .val (.int (3 : Int32)), .unset] [(.ref w3)])) rfl rfl (hb hby d13_4) _ ?_
    rw [len_of S_w3 N_w3]
    show Steps p.tables e below (T4.setTop (mkF m 5 #[.val (.ref a1), .val (.int (3 : Int32)), .unset] [(.int (16 : Int32))])) _
    refine XS.aloadN X4.here hx rfl (hb hby d13_5) rfl rfl ?_
    show Steps p.tables e below (T4.setTop (mkF m 6 #[.val (.ref a1), .val (.int (3 : Int32)), .unset] [(.ref a1), (.int (16 : Int32))])) _
    refine st6 _ ?_
    show Steps p.tables e below (T6.setTop (mkF m 9 #[.val (.ref a1), .val (.int (3 : Int32)), .unset] [(.int (0 : Int32)), (.int (16 : Int32))])) _
    refine XS.ishr X6.here hx rfl (hb hby d13_9) rfl ?_
    show Steps p.tables e below (T6.setTop (mkF m 10 #[.val (.ref a1), .val (.int (3 : Int32)), .unset] [(.int ((16 : Int32) >>> ((0 : Int32) &&& 31)))])) _
    refine XS.istoreN X6.here hx rfl (hb hby d13_10) rfl (l' := #[.val (.ref a1), .val (.int (3 : Int32)), .val (.int ((16 : Int32) >>> ((0 : Int32) &&& 31)))]) rfl ?_
    show Steps p.tables e below (T6.setTop (mkF m 11 #[.val (.ref a1), .val (.int (3 : Int32)), .val (.int ((16 : Int32) >>> ((0 : Int32) &&& 31)))] [])) _
    refine XS.iloadN X6.here hx rfl (hb hby d13_11) rfl ?_
    show Steps p.tables e below (T6.setTop (mkF m 12 #[.val (.ref a1), .val (.int (3 : Int32)), .val (.int ((16 : Int32) >>> ((0 : Int32) &&& 31)))] [(.int (3 : Int32))])) _
    refine XS.iloadN X6.here hx rfl (hb hby d13_12) rfl ?_
    show Steps p.tables e below (T6.setTop (mkF m 13 #[.val (.ref a1), .val (.int (3 : Int32)), .val (.int ((16 : Int32) >>> ((0 : Int32) &&& 31)))] [(.int ((16 : Int32) >>> ((0 : Int32) &&& 31))), (.int (3 : Int32))])) _
    refine XS.isub X6.here hx rfl (hb hby d13_13) rfl ?_
    show Steps p.tables e below (T6.setTop (mkF m 14 #[.val (.ref a1), .val (.int (3 : Int32)), .val (.int ((16 : Int32) >>> ((0 : Int32) &&& 31)))] [(.int ((3 : Int32) - ((16 : Int32) >>> ((0 : Int32) &&& 31))))])) _
    refine XS.ifYes X6.here hx rfl (pc0 := 14) (pc' := 38) rfl (hb hby d13_14) rfl ((if0 _ _).trans (flt hc14).2.2.2) (by decide) (by decide) ?_
    show Steps p.tables e below (T6.setTop (mkF m 38 #[.val (.ref a1), .val (.int (3 : Int32)), .val (.int ((16 : Int32) >>> ((0 : Int32) &&& 31)))] [])) _
    exact X6.returnOut hx Bd.returns (hb hby d13_38) hr
  · show QR none h0 n0 _ T6.heap _
    rw [e6]
    exact ⟨rfl, N0, rfl⟩
theorem d13_17 : decode jdk_68_method_9_code 17 = .ok (.aload_n 0, 1) := by decide +kernel
theorem d13_18 : decode jdk_68_method_9_code 18 = .ok (.aload_n 0, 1) := by decide +kernel
theorem d13_19 : decode jdk_68_method_9_code 19 = .ok (.getfield 15, 3) := by decide +kernel
theorem d13_22 : decode jdk_68_method_9_code 22 = .ok (.aload_n 0, 1) := by decide +kernel
theorem d13_23 : decode jdk_68_method_9_code 23 = .ok (.iload_n 1, 1) := by decide +kernel
theorem d13_24 : decode jdk_68_method_9_code 24 = .ok (.invokevirtual 104, 3) := by decide +kernel
theorem d13_27 : decode jdk_68_method_9_code 27 = .ok (.aload_n 0, 1) := by decide +kernel
theorem d13_28 : decode jdk_68_method_9_code 28 = .ok (.getfield 22, 3) := by decide +kernel
theorem d13_31 : decode jdk_68_method_9_code 31 = .ok (.ishl, 1) := by decide +kernel
theorem d13_32 : decode jdk_68_method_9_code 32 = .ok (.invokestatic 108, 3) := by decide +kernel
theorem d13_35 : decode jdk_68_method_9_code 35 = .ok (.putfield 15, 3) := by decide +kernel
theorem pd_13_13 : parseMethodDescriptor "(I)I" = some ⟨[.int], some .int⟩ := by decide +kernel
theorem pd_13_15 : parseMethodDescriptor "([BI)[B" = some ⟨[(.array .byte), .int], some (.array .byte)⟩ := by decide +kernel
def Q13 (Z : State) (a1 : Addr) (n c : Nat) (h0 : Heap) (n0 : Nat) (v : Option Value) (h : Heap) (L : List Loc) : Prop := v = none ∧ Fr n0 L ∧ Keep h0 h [a1] ∧ own_SBv Z h a1 n c h0.size
set_option maxRecDepth 65536 in
set_option maxHeartbeats 40000000 in
theorem r13g (l : Launch) (Z : State) (a0 : Array Value) (hw : ∀ d ∈ tables_1, d.before a0 Z = true) (ws : List Jvm.Cond) (a1 : Addr) (w3 : Addr) (n q : Nat) (h0 : Heap) (n0 : Nat) (Z0 : n0 ≤ h0.size) (SB : own_SBv Z h0 a1 n 16 w3) (g_a1 : n0 ≤ a1) (hq : q = 20 ∨ q = 21) :
    MetFree l (⟨"java/lang/AbstractStringBuilder", "ensureCapacityInternal", "(I)V"⟩ : MethodName) (head1 (Jvm.Cond.code (⟨"java/lang/AbstractStringBuilder", "ensureCapacityInternal", "(I)V"⟩ : MethodName) jdk_68_method_9_code 3 none :: ws) ({ frames := 3, cells := 1, slots := 34, locals := 48 } : Room)) (fun a U => a = #[(.ref a1), (.int (Int32.ofNat q))] ∧ Z.Warmed39 U.vm ∧ U.heap = h0) (fun _ _ _ _ _ => True) (fun _ U o U' => ∃ v L, o = .returned v ∧ Q13 Z a1 n 34 h0 n0 v U'.heap L ∧ FrameEnd U o U' L ({ frames := 3, cells := 1, slots := 34, locals := 48 } : Room).cells ({ frames := 3, cells := 1, slots := 34, locals := 48 } : Room).slots) := by
  refine MetFree.of_bodySF (plainFor_of_name pn_13) hisR ?_
  intro p e s m args below meth c s₁ Bd hml0 hP hK
  obtain ⟨rfl, hZ, hh⟩ := hP
  have hx := Bd.exec
  obtain ⟨E_a1, F_coder_a1, F_count_a1, F_value_a1, kd, vd, B, hvd⟩ := id SB
  have B : Arv Z h0 w3 kd .byte (16 : Int32) vd (.int 0) := B
  obtain ⟨cl_w3, Ar_w3, qb, S_w3, N_w3, Hb, Gb⟩ := id B
  have hc14 : (0 : Int32) < ((Int32.ofNat q) - ((16 : Int32) >>> ((0 : Int32) &&& 31))) := by rcases hq with rfl | rfl <;> decide +kernel
  have hby := Bd.bytes
  have hml : c.maxLocals = 3 := hml0
  have hown : s.vm.findClass "java/lang/AbstractStringBuilder" = some m.cls := findClass_of_methodNamed Bd.named
  have hnm := (name_of_methodNamed Bd.named Bd.method).1
  have X0 : Stand p l e ({ frames := 3, cells := 1, slots := 34, locals := 48 } : Room) s m #[(.ref a1), (.int (Int32.ofNat q))] below meth c s₁ [] 0 0 := Stand.of_body Bd
  have e0 : s₁.heap = h0 := by rw [← hh, Bd.state]; rfl
  have N0 := Fr.nil n0
  have pre0 : ∀ t, Steps p.tables e below (s₁.setTop (mkF m 0 #[.val (.ref a1), .val (.int (Int32.ofNat q)), .unset] [])) t → Steps p.tables e below (s₁.setTop (entryFrame m #[(.ref a1), (.int (Int32.ofNat q))] 3)) t := fun t k => castTop (ef_13 m a1 (Int32.ofNat q)) k
  obtain ⟨T4, X4, e4, st4⟩ := getF X0 hx hZ hown (host := "") (Or.inl (hw _ (List.mem_of_getElem? (i := 48) rfl))) Via.refl e0 F_value_a1 (g := (mkF m 1 #[.val (.ref a1), .val (.int (Int32.ofNat q)), .unset] [(.ref a1)])) rfl rfl (hb hby d13_1)
  obtain ⟨T6, X6, e6, st6⟩ := getF X4 hx hZ hown (host := "") (Or.inl (hw _ (List.mem_of_getElem? (i := 50) rfl))) Via.refl e4 F_coder_a1 (g := (mkF m 6 #[.val (.ref a1), .val (.int (Int32.ofNat q)), .unset] [(.ref a1), (.int (16 : Int32))])) rfl rfl (hb hby d13_6)
  obtain ⟨T7, X7, e7, st7⟩ := getF X6 hx hZ hown (host := "") (Or.inl (hw _ (List.mem_of_getElem? (i := 48) rfl))) Via.refl e6 F_value_a1 (g := (mkF m 19 #[.val (.ref a1), .val (.int (Int32.ofNat q)), .val (.int ((16 : Int32) >>> ((0 : Int32) &&& 31)))] [(.ref a1), (.ref a1)])) rfl rfl (hb hby d13_19)
  obtain ⟨cq8, q8, q8'⟩ := E_a1.cell
  obtain ⟨_, _, ⟨T8, L8, k8, n8⟩, -, X8, ⟨Lc8, hQ8, l8, y8, z8⟩, st8⟩ := X7.privateBack hx (y := (⟨"java/lang/AbstractStringBuilder", "newCapacity", "(I)I"⟩ : MethodName)) hown (mvT hZ (hw _ (List.mem_of_getElem? (i := 103) rfl))) (mvT hZ (hw _ (List.mem_of_getElem? (i := 104) rfl))) (mvT hZ (own_selP (hw _ (List.mem_of_getElem? (i := 106) rfl)) (hw _ (List.mem_of_getElem? (i := 105) rfl)) (hw _ (List.mem_of_getElem? (i := 104) rfl)) (by decide))) (Cond.privateMethod_at (mvP hZ (hw _ (List.mem_of_getElem? (i := 105) rfl)) (args := #[]))) (mvT hZ (hw _ (List.mem_of_getElem? (i := 107) rfl))) (by decide) (backOf (W := 2) (r17 l Z a0 hw [] a1 w3 q kd vd h0 n0 Z0 F_value_a1 F_coder_a1 B hq) hZ (hw _ (List.mem_of_getElem? (i := 107) rfl)) (hw _ (List.mem_of_getElem? (i := 44) rfl)) (by decide) (by decide)) (g := (mkF m 24 #[.val (.ref a1), .val (.int (Int32.ofNat q)), .val (.int ((16 : Int32) >>> ((0 : Int32) &&& 31)))] [(.int (Int32.ofNat q)), (.ref a1), (.ref w3), (.ref a1)])) rfl (by rw [hml]; rfl) (Steps.refl _) (a := a1) (by rw [e7]; exact q8) q8' (argsL := [(.int (Int32.ofNat q))]) (rest := [(.ref w3), (.ref a1)]) (lenOf pd_13_13 rfl) rfl (by show 2 * 0 + _ ≤ _; exact Nat.le_of_eq rfl) (hb hby d13_24) (fun _ _ => ⟨rfl, e7, (by decide : 0 + 0 ≤ _), (by decide : 0 + 0 ≤ _)⟩)
  dsimp only [Pt.U, Pt.locs, Pt.cells, Pt.slots] at X8 l8 y8 z8 st8 hQ8
  subst l8 y8 z8
  obtain ⟨rfl, N8q, e8⟩ := hQ8
  have N8 := Fr.app N0 N8q
  obtain ⟨T10, X10, e10, st10⟩ := getF X8 hx hZ hown (host := "") (Or.inl (hw _ (List.mem_of_getElem? (i := 50) rfl))) Via.refl e8 F_coder_a1 (g := (mkF m 28 #[.val (.ref a1), .val (.int (Int32.ofNat q)), .val (.int ((16 : Int32) >>> ((0 : Int32) &&& 31)))] [(.ref a1), (.int (34 : Int32)), (.ref w3), (.ref a1)])) rfl rfl (hb hby d13_28)
  obtain ⟨_, _, ⟨T11, L11, k11, n11⟩, -, X11, ⟨Lc11, hQ11, l11, y11, z11⟩, st11⟩ := Jvm.LawKit.callS X10 hx (y := (⟨"java/util/Arrays", "copyOf", "([BI)[B"⟩ : MethodName)) hown (mvT hZ (hw _ (List.mem_of_getElem? (i := 115) rfl))) (mvT hZ (hw _ (List.mem_of_getElem? (i := 116) rfl))) (mvT hZ (hw _ (List.mem_of_getElem? (i := 117) rfl))) (mvT hZ (hw _ (List.mem_of_getElem? (i := 118) rfl))) (by decide) (backOf (W := 1) (r19 l Z a0 hw [] w3 kd vd h0 n0 Z0 B) hZ (hw _ (List.mem_of_getElem? (i := 118) rfl)) (hw _ (List.mem_of_getElem? (i := 117) rfl)) (by decide) (by decide)) (g := (mkF m 32 #[.val (.ref a1), .val (.int (Int32.ofNat q)), .val (.int ((16 : Int32) >>> ((0 : Int32) &&& 31)))] [(.int ((34 : Int32) <<< ((0 : Int32) &&& 31))), (.ref w3), (.ref a1)])) rfl (by rw [hml]; rfl) (argsL := [(.ref w3), (.int ((34 : Int32) <<< ((0 : Int32) &&& 31)))]) (rest := [(.ref a1)]) (lenOf pd_13_15 rfl) rfl (by show 2 * 0 + _ ≤ _; exact Nat.le_of_eq rfl) (hb hby d13_32) (fun _ _ => ⟨rfl, e10, (by decide : 0 + 1 ≤ _), (by decide : 0 + 34 ≤ _)⟩)
  dsimp only [Pt.U, Pt.locs, Pt.cells, Pt.slots] at X11 l11 y11 z11 st11 hQ11
  subst l11 y11 z11
  obtain ⟨rfl, N11q, K11, k11x, vs11, V11, hv11⟩ := hQ11
  have N11 := Fr.app N8 N11q
  obtain ⟨T12, h12, X12, e12, W12, st12⟩ := putF X11 hx hZ hown (host := "") (Or.inl (hw _ (List.mem_of_getElem? (i := 48) rfl))) Via.refl rfl (F_value_a1.keep K11 nin0) (E_a1.keep K11) (Or.inl (hw _ (List.mem_of_getElem? (i := 49) rfl))) (hw _ (List.mem_of_getElem? (i := 35) rfl)) (ty := (.array .byte)) (by decide) rfl rfl (g := (mkF m 35 #[.val (.ref a1), .val (.int (Int32.ofNat q)), .val (.int ((16 : Int32) >>> ((0 : Int32) &&& 31)))] [(.ref h0.size), (.ref a1)])) rfl rfl (hb hby d13_35)
  have Fw12 := (F_value_a1.keep K11 nin0).same W12
  have K12 : Keep h0 h12 [a1] := ((Keep.refl h0 [a1]).trans K11 all0).wr W12 (Or.inl (List.mem_of_getElem? (i := 0) rfl))
  have N12 := Fr.snoc X12 N11 g_a1
  obtain ⟨fs, hr, hrun, hended, hW, hsame⟩ := X12.leave (v := none) (fun _ => rfl)
  refine ⟨_, _, pre0 _ ?_, hrun, hended, _, _, rfl, ?_, ⟨_, rfl⟩, hW, hsame.mono (by decide) (by decide)⟩
  · show Steps p.tables e below (s₁.setTop (mkF m 0 #[.val (.ref a1), .val (.int (Int32.ofNat q)), .unset] [])) _
    refine XS.aloadN X0.here hx rfl (hb hby d13_0) rfl rfl ?_
    show Steps p.tables e below (s₁.setTop (mkF m 1 #[.val (.ref a1), .val (.int (Int32.ofNat q)), .unset] [(.ref a1)])) _
    refine st4 _ ?_
    show Steps p.tables e below (T4.setTop (mkF m 4 #[.val (.ref a1), .val (.int (Int32.ofNat q)), .unset] [(.ref w3)])) _
    refine X4.arraylength hx (by rw [e4]; exact Ar_w3.1) (State.isArrayOf_alike hZ.alike Ar_w3.2.1) (g := (mkF m 4 #[.val (.ref a1), .val (.int (Int32.ofNat q)), .unset] [(.ref w3)])) rfl rfl (hb hby d13_4) _ ?_
    rw [len_of S_w3 N_w3]
    show Steps p.tables e below (T4.setTop (mkF m 5 #[.val (.ref a1), .val (.int (Int32.ofNat q)), .unset] [(.int (16 : Int32))])) _
    refine XS.aloadN X4.here hx rfl (hb hby d13_5) rfl rfl ?_
    show Steps p.tables e below (T4.setTop (mkF m 6 #[.val (.ref a1), .val (.int (Int32.ofNat q)), .unset] [(.ref a1), (.int (16 : Int32))])) _
    refine st6 _ ?_
    show Steps p.tables e below (T6.setTop (mkF m 9 #[.val (.ref a1), .val (.int (Int32.ofNat q)), .unset] [(.int (0 : Int32)), (.int (16 : Int32))])) _
    refine XS.ishr X6.here hx rfl (hb hby d13_9) rfl ?_
    show Steps p.tables e below (T6.setTop (mkF m 10 #[.val (.ref a1), .val (.int (Int32.ofNat q)), .unset] [(.int ((16 : Int32) >>> ((0 : Int32) &&& 31)))])) _
    refine XS.istoreN X6.here hx rfl (hb hby d13_10) rfl (l' := #[.val (.ref a1), .val (.int (Int32.ofNat q)), .val (.int ((16 : Int32) >>> ((0 : Int32) &&& 31)))]) rfl ?_
    show Steps p.tables e below (T6.setTop (mkF m 11 #[.val (.ref a1), .val (.int (Int32.ofNat q)), .val (.int ((16 : Int32) >>> ((0 : Int32) &&& 31)))] [])) _
    refine XS.iloadN X6.here hx rfl (hb hby d13_11) rfl ?_
    show Steps p.tables e below (T6.setTop (mkF m 12 #[.val (.ref a1), .val (.int (Int32.ofNat q)), .val (.int ((16 : Int32) >>> ((0 : Int32) &&& 31)))] [(.int (Int32.ofNat q))])) _
    refine XS.iloadN X6.here hx rfl (hb hby d13_12) rfl ?_
    show Steps p.tables e below (T6.setTop (mkF m 13 #[.val (.ref a1), .val (.int (Int32.ofNat q)), .val (.int ((16 : Int32) >>> ((0 : Int32) &&& 31)))] [(.int ((16 : Int32) >>> ((0 : Int32) &&& 31))), (.int (Int32.ofNat q))])) _
    refine XS.isub X6.here hx rfl (hb hby d13_13) rfl ?_
    show Steps p.tables e below (T6.setTop (mkF m 14 #[.val (.ref a1), .val (.int (Int32.ofNat q)), .val (.int ((16 : Int32) >>> ((0 : Int32) &&& 31)))] [(.int ((Int32.ofNat q) - ((16 : Int32) >>> ((0 : Int32) &&& 31))))])) _
    refine XS.ifNo X6.here hx rfl (hb hby d13_14) rfl ((if0 _ _).trans (tlt hc14).2.2.2) ?_
    show Steps p.tables e below (T6.setTop (mkF m 17 #[.val (.ref a1), .val (.int (Int32.ofNat q)), .val (.int ((16 : Int32) >>> ((0 : Int32) &&& 31)))] [])) _
    refine XS.aloadN X6.here hx rfl (hb hby d13_17) rfl rfl ?_
    show Steps p.tables e below (T6.setTop (mkF m 18 #[.val (.ref a1), .val (.int (Int32.ofNat q)), .val (.int ((16 : Int32) >>> ((0 : Int32) &&& 31)))] [(.ref a1)])) _
    refine XS.aloadN X6.here hx rfl (hb hby d13_18) rfl rfl ?_
    show Steps p.tables e below (T6.setTop (mkF m 19 #[.val (.ref a1), .val (.int (Int32.ofNat q)), .val (.int ((16 : Int32) >>> ((0 : Int32) &&& 31)))] [(.ref a1), (.ref a1)])) _
    refine st7 _ ?_
    show Steps p.tables e below (T7.setTop (mkF m 22 #[.val (.ref a1), .val (.int (Int32.ofNat q)), .val (.int ((16 : Int32) >>> ((0 : Int32) &&& 31)))] [(.ref w3), (.ref a1)])) _
    refine XS.aloadN X7.here hx rfl (hb hby d13_22) rfl rfl ?_
    show Steps p.tables e below (T7.setTop (mkF m 23 #[.val (.ref a1), .val (.int (Int32.ofNat q)), .val (.int ((16 : Int32) >>> ((0 : Int32) &&& 31)))] [(.ref a1), (.ref w3), (.ref a1)])) _
    refine XS.iloadN X7.here hx rfl (hb hby d13_23) rfl ?_
    show Steps p.tables e below (T7.setTop (mkF m 24 #[.val (.ref a1), .val (.int (Int32.ofNat q)), .val (.int ((16 : Int32) >>> ((0 : Int32) &&& 31)))] [(.int (Int32.ofNat q)), (.ref a1), (.ref w3), (.ref a1)])) _
    refine st8.trans ?_
    show Steps p.tables e below (T8.setTop (mkF m 27 #[.val (.ref a1), .val (.int (Int32.ofNat q)), .val (.int ((16 : Int32) >>> ((0 : Int32) &&& 31)))] [(.int (34 : Int32)), (.ref w3), (.ref a1)])) _
    refine XS.aloadN X8.here hx rfl (hb hby d13_27) rfl rfl ?_
    show Steps p.tables e below (T8.setTop (mkF m 28 #[.val (.ref a1), .val (.int (Int32.ofNat q)), .val (.int ((16 : Int32) >>> ((0 : Int32) &&& 31)))] [(.ref a1), (.int (34 : Int32)), (.ref w3), (.ref a1)])) _
    refine st10 _ ?_
    show Steps p.tables e below (T10.setTop (mkF m 31 #[.val (.ref a1), .val (.int (Int32.ofNat q)), .val (.int ((16 : Int32) >>> ((0 : Int32) &&& 31)))] [(.int (0 : Int32)), (.int (34 : Int32)), (.ref w3), (.ref a1)])) _
    refine XS.ishl X10.here hx rfl (hb hby d13_31) rfl ?_
    show Steps p.tables e below (T10.setTop (mkF m 32 #[.val (.ref a1), .val (.int (Int32.ofNat q)), .val (.int ((16 : Int32) >>> ((0 : Int32) &&& 31)))] [(.int ((34 : Int32) <<< ((0 : Int32) &&& 31))), (.ref w3), (.ref a1)])) _
    refine st11 _ ?_
    show Steps p.tables e below (T11.setTop (mkF m 35 #[.val (.ref a1), .val (.int (Int32.ofNat q)), .val (.int ((16 : Int32) >>> ((0 : Int32) &&& 31)))] [(.ref h0.size), (.ref a1)])) _
    refine st12 _ ?_
    show Steps p.tables e below (T12.setTop (mkF m 38 #[.val (.ref a1), .val (.int (Int32.ofNat q)), .val (.int ((16 : Int32) >>> ((0 : Int32) &&& 31)))] [])) _
    exact X12.returnOut hx Bd.returns (hb hby d13_38) hr
  · show Q13 Z a1 n 34 h0 n0 _ T12.heap _
    have hne : h0.size ≠ a1 := Nat.ne_of_gt E_a1.lt
    rw [e12]
    exact ⟨rfl, N12, K12, (E_a1.keep K11).wr W12, (F_coder_a1.keep K11 nin0).other W12 (Or.inr (slot_ne (Or.inl (hw _ (List.mem_of_getElem? (i := 51) rfl))) (Or.inl (hw _ (List.mem_of_getElem? (i := 49) rfl))) (by decide) (t := .byte) (t' := (.array .byte)) (by decide) (by decide))), (F_count_a1.keep K11 nin0).other W12 (Or.inr (slot_ne (Or.inl (hw _ (List.mem_of_getElem? (i := 76) rfl))) (Or.inl (hw _ (List.mem_of_getElem? (i := 49) rfl))) (by decide) (t := .int) (t' := (.array .byte)) (by decide) (by decide))), Fw12, k11x, vs11, V11.other W12 hne, hv11⟩
theorem r13w (l : Launch) (Z : State) (a0 : Array Value) (hw : ∀ d ∈ tables_1, d.before a0 Z = true) (ws : List Jvm.Cond) (a1 : Addr) (p2 : Int32) (w3 : Addr) (n q : Nat) (h0 : Heap) (n0 : Nat) (Z0 : n0 ≤ h0.size) (hp : p2 = Int32.ofNat q) (SB : own_SBv Z h0 a1 n 16 w3) (g_a1 : n0 ≤ a1) (hq : q = 20 ∨ q = 21) :
    MetFree l (⟨"java/lang/AbstractStringBuilder", "ensureCapacityInternal", "(I)V"⟩ : MethodName) (head1 (Jvm.Cond.code (⟨"java/lang/AbstractStringBuilder", "ensureCapacityInternal", "(I)V"⟩ : MethodName) jdk_68_method_9_code 3 none :: ws) ({ frames := 3, cells := 1, slots := 34, locals := 48 } : Room)) (fun a U => a = #[(.ref a1), (.int p2)] ∧ Z.Warmed39 U.vm ∧ U.heap = h0) (fun _ _ _ _ _ => True) (fun _ U o U' => ∃ v L, o = .returned v ∧ Q13 Z a1 n 34 h0 n0 v U'.heap L ∧ FrameEnd U o U' L ({ frames := 3, cells := 1, slots := 34, locals := 48 } : Room).cells ({ frames := 3, cells := 1, slots := 34, locals := 48 } : Room).slots) := by
  subst hp
  exact r13g l Z a0 hw ws a1 w3 n q h0 n0 Z0 SB g_a1 hq
theorem own_Str.keep1 {Z : State} {h h' : Heap} {o x : Addr} {n : Nat} {a0 : Array Value} {C : String} {kI : Nat} (T : own_Str Z h o n) (K : Keep h h' [x]) (X : Exa Z h x C) (hC : "java/lang/String" ≠ C) (w : (Cond.instantiable C kI).before a0 Z = true) : own_Str Z h' o n := by
  obtain ⟨E, FC, t, k, vs, FV, V⟩ := T
  have h1 : o ≠ x := Exa.ne E X hC
  have h2 : t ≠ x := fun q => Exa.neArv X V w q.symm
  exact ⟨E.keep K, FC.keep K (ninS h1 nin0), t, k, vs, FV.keep K (ninS h1 nin0), V.keep K (ninS h2 nin0)⟩
theorem own_Str.keep0 {Z : State} {h h' : Heap} {o : Addr} {n : Nat} (T : own_Str Z h o n) (K : Keep h h' []) : own_Str Z h' o n := by
  obtain ⟨E, FC, t, k, vs, FV, V⟩ := T
  exact ⟨E.keep K, FC.keep K nin0, t, k, vs, FV.keep K nin0, V.keep K nin0⟩
theorem own_SBv.keep0 {Z : State} {h h' : Heap} {b t : Addr} {n c : Nat} (T : own_SBv Z h b n c t) (K : Keep h h' []) : own_SBv Z h' b n c t := by
  obtain ⟨E, F1, F2, F3, k, vs, V, hv⟩ := T
  exact ⟨E.keep K, F1.keep K nin0, F2.keep K nin0, F3.keep K nin0, k, vs, V.keep K nin0, hv⟩
def Q10 (Z : State) (a1 : Addr) (ws : List Addr) (n c : Nat) (t : Addr) (h0 : Heap) (n0 : Nat) (v : Option Value) (h : Heap) (L : List Loc) : Prop := v = some (.ref a1) ∧ Fr n0 L ∧ Keep h0 h ws ∧ own_SBv Z h a1 n c t
theorem d10_0 : decode jdk_68_method_22_code 0 = .ok (.aload_n 1, 1) := by decide +kernel
theorem d10_1 : decode jdk_68_method_22_code 1 = .ok (.ifnonnull 8, 3) := by decide +kernel
theorem d10_9 : decode jdk_68_method_22_code 9 = .ok (.aload_n 1, 1) := by decide +kernel
theorem d10_10 : decode jdk_68_method_22_code 10 = .ok (.invokevirtual 32, 3) := by decide +kernel
theorem d10_13 : decode jdk_68_method_22_code 13 = .ok (.istore_n 2, 1) := by decide +kernel
theorem d10_14 : decode jdk_68_method_22_code 14 = .ok (.aload_n 0, 1) := by decide +kernel
theorem d10_15 : decode jdk_68_method_22_code 15 = .ok (.aload_n 0, 1) := by decide +kernel
theorem d10_16 : decode jdk_68_method_22_code 16 = .ok (.getfield 79, 3) := by decide +kernel
theorem d10_19 : decode jdk_68_method_22_code 19 = .ok (.iload_n 2, 1) := by decide +kernel
theorem d10_20 : decode jdk_68_method_22_code 20 = .ok (.iadd, 1) := by decide +kernel
theorem d10_21 : decode jdk_68_method_22_code 21 = .ok (.invokevirtual 100, 3) := by decide +kernel
theorem d10_24 : decode jdk_68_method_22_code 24 = .ok (.aload_n 0, 1) := by decide +kernel
theorem d10_25 : decode jdk_68_method_22_code 25 = .ok (.aload_n 0, 1) := by decide +kernel
theorem d10_26 : decode jdk_68_method_22_code 26 = .ok (.getfield 79, 3) := by decide +kernel
theorem d10_29 : decode jdk_68_method_22_code 29 = .ok (.aload_n 1, 1) := by decide +kernel
theorem d10_30 : decode jdk_68_method_22_code 30 = .ok (.invokevirtual 208, 3) := by decide +kernel
theorem d10_33 : decode jdk_68_method_22_code 33 = .ok (.aload_n 0, 1) := by decide +kernel
theorem d10_34 : decode jdk_68_method_22_code 34 = .ok (.dup, 1) := by decide +kernel
theorem d10_35 : decode jdk_68_method_22_code 35 = .ok (.getfield 79, 3) := by decide +kernel
theorem d10_38 : decode jdk_68_method_22_code 38 = .ok (.iload_n 2, 1) := by decide +kernel
theorem d10_39 : decode jdk_68_method_22_code 39 = .ok (.iadd, 1) := by decide +kernel
theorem d10_40 : decode jdk_68_method_22_code 40 = .ok (.putfield 79, 3) := by decide +kernel
theorem d10_43 : decode jdk_68_method_22_code 43 = .ok (.aload_n 0, 1) := by decide +kernel
theorem d10_44 : decode jdk_68_method_22_code 44 = .ok (.areturn, 1) := by decide +kernel
theorem pn_10 : plainName "java/lang/AbstractStringBuilder" = true := by first | (simp [plainName, overriddenIn]; done) | decide +kernel
theorem pd_10_7 : parseMethodDescriptor "()I" = some ⟨[], some .int⟩ := by decide +kernel
theorem pd_10_4 : parseMethodDescriptor "(I)V" = some ⟨[.int], none⟩ := by decide +kernel
theorem pd_10_9 : parseMethodDescriptor "(ILjava/lang/String;)V" = some ⟨[.int, (.object "java/lang/String")], none⟩ := by decide +kernel
theorem ef_10 (m : MethodId) (x0 : Addr) (x1 : Addr) : entryFrame m #[(.ref x0), (.ref x1)] 3 = mkF m 0 #[.val (.ref x0), .val (.ref x1), .unset] [] := by first | (simp [entryFrame, mkF, argsToLocals, Value.category]; done) | rfl
set_option maxRecDepth 65536 in
set_option maxHeartbeats 40000000 in
theorem r10a (l : Launch) (Z : State) (a0 : Array Value) (hw : ∀ d ∈ tables_1, d.before a0 Z = true) (ws : List Jvm.Cond) (a1 : Addr) (a2 : Addr) (t0 : Addr) (h0 : Heap) (n0 : Nat) (Z0 : n0 ≤ h0.size) (SB : own_SBv Z h0 a1 0 16 t0) (S : own_Str Z h0 a2 3) (g_a1 : n0 ≤ a1) (g_t0 : n0 ≤ t0) (CS : own_CS Z Z.heap) (O : Old Z n0 h0) :
    MetFree l (⟨"java/lang/AbstractStringBuilder", "append", "(Ljava/lang/String;)Ljava/lang/AbstractStringBuilder;"⟩ : MethodName) (head1 (Jvm.Cond.code (⟨"java/lang/AbstractStringBuilder", "append", "(Ljava/lang/String;)Ljava/lang/AbstractStringBuilder;"⟩ : MethodName) jdk_68_method_22_code 3 (some (.object "java/lang/AbstractStringBuilder")) :: ws) ({ frames := 4, cells := 0, slots := 0, locals := 62 } : Room)) (fun a U => a = #[(.ref a1), (.ref a2)] ∧ Z.Warmed39 U.vm ∧ U.heap = h0) (fun _ _ _ _ _ => True) (fun _ U o U' => ∃ v L, o = .returned v ∧ Q10 Z a1 [a1, t0] 3 16 t0 h0 n0 v U'.heap L ∧ FrameEnd U o U' L ({ frames := 4, cells := 0, slots := 0, locals := 62 } : Room).cells ({ frames := 4, cells := 0, slots := 0, locals := 62 } : Room).slots) := by
  refine MetFree.of_bodySF (plainFor_of_name pn_10) hisR ?_
  intro p e s m args below meth c s₁ Bd hml0 hP hK
  obtain ⟨rfl, hZ, hh⟩ := hP
  have hx := Bd.exec
  obtain ⟨E_a1, F_coder_a1, F_count_a1, F_value_a1, kd, vd, B, hvd⟩ := id SB
  have E_a2 := S.1
  have CS0 := CS.ext O.2
  have hby := Bd.bytes
  have hml : c.maxLocals = 3 := hml0
  have hown : s.vm.findClass "java/lang/AbstractStringBuilder" = some m.cls := findClass_of_methodNamed Bd.named
  have hnm := (name_of_methodNamed Bd.named Bd.method).1
  have X0 : Stand p l e ({ frames := 4, cells := 0, slots := 0, locals := 62 } : Room) s m #[(.ref a1), (.ref a2)] below meth c s₁ [] 0 0 := Stand.of_body Bd
  have e0 : s₁.heap = h0 := by rw [← hh, Bd.state]; rfl
  have N0 := Fr.nil n0
  have pre0 : ∀ t, Steps p.tables e below (s₁.setTop (mkF m 0 #[.val (.ref a1), .val (.ref a2), .unset] [])) t → Steps p.tables e below (s₁.setTop (entryFrame m #[(.ref a1), (.ref a2)] 3)) t := fun t k => castTop (ef_10 m a1 a2) k
  obtain ⟨cq3, kq3, q3a, q3b, q3c⟩ := isOf hZ e0 E_a2
  obtain ⟨_, _, ⟨T3, L3, k3, n3⟩, -, X3, ⟨Lc3, hQ3, l3, y3, z3⟩, st3⟩ := X0.virtualBack hx (y := (⟨"java/lang/String", "length", "()I"⟩ : MethodName)) (z := (⟨"java/lang/String", "length", "()I"⟩ : MethodName)) hown (mvT hZ (hw _ (List.mem_of_getElem? (i := 62) rfl))) (mvT hZ (hw _ (List.mem_of_getElem? (i := 63) rfl))) (notFace_of_selects (args := #[]) (mvT hZ (hw _ (List.mem_of_getElem? (i := 65) rfl)))) (mvT hZ (hw _ (List.mem_of_getElem? (i := 65) rfl))) (mvT hZ (hw _ (List.mem_of_getElem? (i := 64) rfl))) (by decide) (backOf (W := 0) (r11n l Z a0 hw [] a2 3 h0 n0 Z0 S CS0) hZ (hw _ (List.mem_of_getElem? (i := 66) rfl)) (hw _ (List.mem_of_getElem? (i := 24) rfl)) (by decide) (by decide)) q3a q3c (g := (mkF m 10 #[.val (.ref a1), .val (.ref a2), .unset] [(.ref a2)])) rfl (by rw [hml]; rfl) (Steps.refl _) (argsL := []) (rest := []) (lenOf pd_10_7 rfl) rfl (by show 2 * 0 + _ ≤ _; exact Nat.le_of_eq rfl) (hb hby d10_10) (fun _ _ => ⟨rfl, e0, (by decide : 0 + 0 ≤ _), (by decide : 0 + 0 ≤ _)⟩)
  dsimp only [Pt.U, Pt.locs, Pt.cells, Pt.slots] at X3 l3 y3 z3 st3 hQ3
  subst l3 y3 z3
  obtain ⟨rfl, N3q, e3⟩ := hQ3
  have N3 := Fr.app N0 N3q
  obtain ⟨T5, X5, e5, st5⟩ := getF X3 hx hZ hown (host := "") (Or.inl (hw _ (List.mem_of_getElem? (i := 75) rfl))) Via.refl e3 F_count_a1 (g := (mkF m 16 #[.val (.ref a1), .val (.ref a2), .val (.int (Int32.ofNat 3))] [(.ref a1), (.ref a1)])) rfl rfl (hb hby d10_16)
  obtain ⟨cq6, q6, q6'⟩ := E_a1.cell
  obtain ⟨_, _, ⟨T6, L6, k6, n6⟩, -, X6, ⟨Lc6, hQ6, l6, y6, z6⟩, st6⟩ := X5.privateBack hx (y := (⟨"java/lang/AbstractStringBuilder", "ensureCapacityInternal", "(I)V"⟩ : MethodName)) hown (mvT hZ (hw _ (List.mem_of_getElem? (i := 77) rfl))) (mvT hZ (hw _ (List.mem_of_getElem? (i := 78) rfl))) (mvT hZ (own_selP (hw _ (List.mem_of_getElem? (i := 80) rfl)) (hw _ (List.mem_of_getElem? (i := 79) rfl)) (hw _ (List.mem_of_getElem? (i := 78) rfl)) (by decide))) (Cond.privateMethod_at (mvP hZ (hw _ (List.mem_of_getElem? (i := 79) rfl)) (args := #[]))) (mvT hZ (hw _ (List.mem_of_getElem? (i := 81) rfl))) (by decide) (backOf (W := 0) (r13n l Z a0 hw [] a1 t0 kd vd h0 n0 Z0 F_value_a1 F_coder_a1 B) hZ (hw _ (List.mem_of_getElem? (i := 81) rfl)) (hw _ (List.mem_of_getElem? (i := 44) rfl)) (by decide) (by decide)) (g := (mkF m 21 #[.val (.ref a1), .val (.ref a2), .val (.int (Int32.ofNat 3))] [(.int ((Int32.ofNat 0) + (Int32.ofNat 3))), (.ref a1)])) rfl (by rw [hml]; rfl) (Steps.refl _) (a := a1) (by rw [e5]; exact q6) q6' (argsL := [(.int ((Int32.ofNat 0) + (Int32.ofNat 3)))]) (rest := []) (lenOf pd_10_4 rfl) rfl (by show 2 * 0 + _ ≤ _; exact Nat.le_of_eq rfl) (hb hby d10_21) (fun _ _ => ⟨rfl, e5, (by decide : 0 + 0 ≤ _), (by decide : 0 + 0 ≤ _)⟩)
  dsimp only [Pt.U, Pt.locs, Pt.cells, Pt.slots] at X6 l6 y6 z6 st6 hQ6
  subst l6 y6 z6
  obtain ⟨rfl, N6q, e6⟩ := hQ6
  have E6 := E_a1
  have F6n := F_count_a1
  have Fc6 := F_coder_a1
  have Fv6 := F_value_a1
  have N6 := Fr.app N3 N6q
  obtain ⟨T8, X8, e8, st8⟩ := getF X6 hx hZ hown (host := "") (Or.inl (hw _ (List.mem_of_getElem? (i := 75) rfl))) Via.refl e6 F6n (g := (mkF m 26 #[.val (.ref a1), .val (.ref a2), .val (.int (Int32.ofNat 3))] [(.ref a1), (.ref a1)])) rfl rfl (hb hby d10_26)
  obtain ⟨cq9, q9, q9'⟩ := E6.cell
  obtain ⟨_, _, ⟨T9, L9, k9, n9⟩, -, X9, ⟨Lc9, hQ9, l9, y9, z9⟩, st9⟩ := X8.privateBack hx (y := (⟨"java/lang/AbstractStringBuilder", "putStringAt", "(ILjava/lang/String;)V"⟩ : MethodName)) hown (mvT hZ (hw _ (List.mem_of_getElem? (i := 82) rfl))) (mvT hZ (hw _ (List.mem_of_getElem? (i := 83) rfl))) (mvT hZ (own_selP (hw _ (List.mem_of_getElem? (i := 85) rfl)) (hw _ (List.mem_of_getElem? (i := 84) rfl)) (hw _ (List.mem_of_getElem? (i := 83) rfl)) (by decide))) (Cond.privateMethod_at (mvP hZ (hw _ (List.mem_of_getElem? (i := 84) rfl)) (args := #[]))) (mvT hZ (hw _ (List.mem_of_getElem? (i := 86) rfl))) (by decide) (backOf (W := 0) (r14 l Z a0 hw [] a1 a2 t0 3 0 16 kd vd h0 n0 Z0 E6 Fv6 Fc6 S CS0 B hvd g_t0 (by decide) (by decide)) hZ (hw _ (List.mem_of_getElem? (i := 86) rfl)) (hw _ (List.mem_of_getElem? (i := 44) rfl)) (by decide) (by decide)) (g := (mkF m 30 #[.val (.ref a1), .val (.ref a2), .val (.int (Int32.ofNat 3))] [(.ref a2), (.int (Int32.ofNat 0)), (.ref a1)])) rfl (by rw [hml]; rfl) (Steps.refl _) (a := a1) (by rw [e8]; exact q9) q9' (argsL := [(.int (Int32.ofNat 0)), (.ref a2)]) (rest := []) (lenOf pd_10_9 rfl) rfl (by show 2 * 0 + _ ≤ _; exact Nat.le_of_eq rfl) (hb hby d10_30) (fun _ _ => ⟨rfl, e8, (by decide : 0 + 0 ≤ _), (by decide : 0 + 0 ≤ _)⟩)
  dsimp only [Pt.U, Pt.locs, Pt.cells, Pt.slots] at X9 l9 y9 z9 st9 hQ9
  subst l9 y9 z9
  obtain ⟨rfl, N9q, K9, vs9, V9, hv9⟩ := hQ9
  have hn2 : a1 ≠ t0 := Exa.neArv E6 B (hw _ (List.mem_of_getElem? (i := 35) rfl))
  have F9n := F6n.keep K9 (ninS hn2 nin0)
  have E9 := E6.keep K9
  have N9 := Fr.app N6 N9q
  obtain ⟨T11, X11, e11, st11⟩ := getF X9 hx hZ hown (host := "") (Or.inl (hw _ (List.mem_of_getElem? (i := 75) rfl))) Via.refl rfl F9n (g := (mkF m 35 #[.val (.ref a1), .val (.ref a2), .val (.int (Int32.ofNat 3))] [(.ref a1), (.ref a1)])) rfl rfl (hb hby d10_35)
  obtain ⟨T12, h12, X12, e12, W12, st12⟩ := putF X11 hx hZ hown (host := "") (Or.inl (hw _ (List.mem_of_getElem? (i := 75) rfl))) Via.refl e11 F9n E9 (Or.inl (hw _ (List.mem_of_getElem? (i := 76) rfl))) (hw _ (List.mem_of_getElem? (i := 35) rfl)) (ty := .int) (by decide) rfl rfl (g := (mkF m 40 #[.val (.ref a1), .val (.ref a2), .val (.int (Int32.ofNat 3))] [(.int ((Int32.ofNat 0) + (Int32.ofNat 3))), (.ref a1)])) rfl rfl (hb hby d10_40)
  have Fw12 := F9n.same W12
  have K12 : Keep h0 h12 [a1, t0] := ((Keep.refl h0 [a1, t0]).trans K9 (allS (Or.inl (List.mem_of_getElem? (i := 1) rfl)) all0)).wr W12 (Or.inl (List.mem_of_getElem? (i := 0) rfl))
  have N12 := Fr.snoc X12 N9 g_a1
  obtain ⟨fs, hr, hrun, hended, hW, hsame⟩ := X12.leave (v := some (.ref a1)) (fun h => by rw [Bd.returns] at h; cases h)
  refine ⟨_, _, pre0 _ ?_, hrun, hended, _, _, rfl, ?_, ⟨_, rfl⟩, hW, hsame.mono (by decide) (by decide)⟩
  · show Steps p.tables e below (s₁.setTop (mkF m 0 #[.val (.ref a1), .val (.ref a2), .unset] [])) _
    refine XS.aloadN X0.here hx rfl (hb hby d10_0) rfl rfl ?_
    show Steps p.tables e below (s₁.setTop (mkF m 1 #[.val (.ref a1), .val (.ref a2), .unset] [(.ref a2)])) _
    refine XS.ifnonnullYes X0.here hx rfl (pc0 := 1) (pc' := 9) rfl (hb hby d10_1) rfl (by decide) (by decide) ?_
    show Steps p.tables e below (s₁.setTop (mkF m 9 #[.val (.ref a1), .val (.ref a2), .unset] [])) _
    refine XS.aloadN X0.here hx rfl (hb hby d10_9) rfl rfl ?_
    show Steps p.tables e below (s₁.setTop (mkF m 10 #[.val (.ref a1), .val (.ref a2), .unset] [(.ref a2)])) _
    refine st3.trans ?_
    show Steps p.tables e below (T3.setTop (mkF m 13 #[.val (.ref a1), .val (.ref a2), .unset] [(.int (Int32.ofNat 3))])) _
    refine XS.istoreN X3.here hx rfl (hb hby d10_13) rfl (l' := #[.val (.ref a1), .val (.ref a2), .val (.int (Int32.ofNat 3))]) rfl ?_
    show Steps p.tables e below (T3.setTop (mkF m 14 #[.val (.ref a1), .val (.ref a2), .val (.int (Int32.ofNat 3))] [])) _
    refine XS.aloadN X3.here hx rfl (hb hby d10_14) rfl rfl ?_
    show Steps p.tables e below (T3.setTop (mkF m 15 #[.val (.ref a1), .val (.ref a2), .val (.int (Int32.ofNat 3))] [(.ref a1)])) _
    refine XS.aloadN X3.here hx rfl (hb hby d10_15) rfl rfl ?_
    show Steps p.tables e below (T3.setTop (mkF m 16 #[.val (.ref a1), .val (.ref a2), .val (.int (Int32.ofNat 3))] [(.ref a1), (.ref a1)])) _
    refine st5 _ ?_
    show Steps p.tables e below (T5.setTop (mkF m 19 #[.val (.ref a1), .val (.ref a2), .val (.int (Int32.ofNat 3))] [(.int (Int32.ofNat 0)), (.ref a1)])) _
    refine XS.iloadN X5.here hx rfl (hb hby d10_19) rfl ?_
    show Steps p.tables e below (T5.setTop (mkF m 20 #[.val (.ref a1), .val (.ref a2), .val (.int (Int32.ofNat 3))] [(.int (Int32.ofNat 3)), (.int (Int32.ofNat 0)), (.ref a1)])) _
    refine XS.iadd X5.here hx rfl (hb hby d10_20) rfl ?_
    show Steps p.tables e below (T5.setTop (mkF m 21 #[.val (.ref a1), .val (.ref a2), .val (.int (Int32.ofNat 3))] [(.int ((Int32.ofNat 0) + (Int32.ofNat 3))), (.ref a1)])) _
    refine st6.trans ?_
    show Steps p.tables e below (T6.setTop (mkF m 24 #[.val (.ref a1), .val (.ref a2), .val (.int (Int32.ofNat 3))] [])) _
    refine XS.aloadN X6.here hx rfl (hb hby d10_24) rfl rfl ?_
    show Steps p.tables e below (T6.setTop (mkF m 25 #[.val (.ref a1), .val (.ref a2), .val (.int (Int32.ofNat 3))] [(.ref a1)])) _
    refine XS.aloadN X6.here hx rfl (hb hby d10_25) rfl rfl ?_
    show Steps p.tables e below (T6.setTop (mkF m 26 #[.val (.ref a1), .val (.ref a2), .val (.int (Int32.ofNat 3))] [(.ref a1), (.ref a1)])) _
    refine st8 _ ?_
    show Steps p.tables e below (T8.setTop (mkF m 29 #[.val (.ref a1), .val (.ref a2), .val (.int (Int32.ofNat 3))] [(.int (Int32.ofNat 0)), (.ref a1)])) _
    refine XS.aloadN X8.here hx rfl (hb hby d10_29) rfl rfl ?_
    show Steps p.tables e below (T8.setTop (mkF m 30 #[.val (.ref a1), .val (.ref a2), .val (.int (Int32.ofNat 3))] [(.ref a2), (.int (Int32.ofNat 0)), (.ref a1)])) _
    refine st9.trans ?_
    show Steps p.tables e below (T9.setTop (mkF m 33 #[.val (.ref a1), .val (.ref a2), .val (.int (Int32.ofNat 3))] [])) _
    refine XS.aloadN X9.here hx rfl (hb hby d10_33) rfl rfl ?_
    show Steps p.tables e below (T9.setTop (mkF m 34 #[.val (.ref a1), .val (.ref a2), .val (.int (Int32.ofNat 3))] [(.ref a1)])) _
    refine XS.dup X9.here hx rfl (hb hby d10_34) rfl rfl ?_
    show Steps p.tables e below (T9.setTop (mkF m 35 #[.val (.ref a1), .val (.ref a2), .val (.int (Int32.ofNat 3))] [(.ref a1), (.ref a1)])) _
    refine st11 _ ?_
    show Steps p.tables e below (T11.setTop (mkF m 38 #[.val (.ref a1), .val (.ref a2), .val (.int (Int32.ofNat 3))] [(.int (Int32.ofNat 0)), (.ref a1)])) _
    refine XS.iloadN X11.here hx rfl (hb hby d10_38) rfl ?_
    show Steps p.tables e below (T11.setTop (mkF m 39 #[.val (.ref a1), .val (.ref a2), .val (.int (Int32.ofNat 3))] [(.int (Int32.ofNat 3)), (.int (Int32.ofNat 0)), (.ref a1)])) _
    refine XS.iadd X11.here hx rfl (hb hby d10_39) rfl ?_
    show Steps p.tables e below (T11.setTop (mkF m 40 #[.val (.ref a1), .val (.ref a2), .val (.int (Int32.ofNat 3))] [(.int ((Int32.ofNat 0) + (Int32.ofNat 3))), (.ref a1)])) _
    refine st12 _ ?_
    show Steps p.tables e below (T12.setTop (mkF m 43 #[.val (.ref a1), .val (.ref a2), .val (.int (Int32.ofNat 3))] [])) _
    refine XS.aloadN X12.here hx rfl (hb hby d10_43) rfl rfl ?_
    show Steps p.tables e below (T12.setTop (mkF m 44 #[.val (.ref a1), .val (.ref a2), .val (.int (Int32.ofNat 3))] [(.ref a1)])) _
    jvm_step X12.here [X12.here.top, hx, (hb hby d10_44), X12.method', Bd.returns, Value.isRef, FieldType.isReference]
    first | (intro acts; rw [hr _ acts rfl rfl rfl]) | rw [hr _ _ rfl rfl rfl]
    exact Steps.refl _
  · show Q10 Z a1 [a1, t0] 3 16 t0 h0 n0 _ T12.heap _
    rw [e12]
    refine ⟨rfl, N12, K12, E9.wr W12, (Fc6.keep K9 (ninS hn2 nin0)).other W12 (Or.inr (slot_ne (Or.inl (hw _ (List.mem_of_getElem? (i := 51) rfl))) (Or.inl (hw _ (List.mem_of_getElem? (i := 76) rfl))) (by decide) (t := .byte) (t' := .int) (by decide) (by decide))), ?_, (Fv6.keep K9 (ninS hn2 nin0)).other W12 (Or.inr (slot_ne (Or.inl (hw _ (List.mem_of_getElem? (i := 49) rfl))) (Or.inl (hw _ (List.mem_of_getElem? (i := 76) rfl))) (by decide) (t := (.array .byte)) (t' := .int) (by decide) (by decide))), kd, vs9, V9.other W12 hn2.symm, hv9⟩
    exact Fw12
set_option maxRecDepth 65536 in
set_option maxHeartbeats 40000000 in
theorem r10g (l : Launch) (Z : State) (a0 : Array Value) (hw : ∀ d ∈ tables_1, d.before a0 Z = true) (ws : List Jvm.Cond) (a1 : Addr) (a2 : Addr) (t0 : Addr) (n : Nat) (h0 : Heap) (n0 : Nat) (Z0 : n0 ≤ h0.size) (SB : own_SBv Z h0 a1 3 16 t0) (S : own_Str Z h0 a2 n) (g_a1 : n0 ≤ a1) (g_t0 : n0 ≤ t0) (CS : own_CS Z Z.heap) (O : Old Z n0 h0) (hn : n = 17 ∨ n = 18) :
    MetFree l (⟨"java/lang/AbstractStringBuilder", "append", "(Ljava/lang/String;)Ljava/lang/AbstractStringBuilder;"⟩ : MethodName) (head1 (Jvm.Cond.code (⟨"java/lang/AbstractStringBuilder", "append", "(Ljava/lang/String;)Ljava/lang/AbstractStringBuilder;"⟩ : MethodName) jdk_68_method_22_code 3 (some (.object "java/lang/AbstractStringBuilder")) :: ws) ({ frames := 4, cells := 1, slots := 34, locals := 62 } : Room)) (fun a U => a = #[(.ref a1), (.ref a2)] ∧ Z.Warmed39 U.vm ∧ U.heap = h0) (fun _ _ _ _ _ => True) (fun _ U o U' => ∃ v L, o = .returned v ∧ Q10 Z a1 [a1] (3 + n) 34 h0.size h0 n0 v U'.heap L ∧ FrameEnd U o U' L ({ frames := 4, cells := 1, slots := 34, locals := 62 } : Room).cells ({ frames := 4, cells := 1, slots := 34, locals := 62 } : Room).slots) := by
  refine MetFree.of_bodySF (plainFor_of_name pn_10) hisR ?_
  intro p e s m args below meth c s₁ Bd hml0 hP hK
  obtain ⟨rfl, hZ, hh⟩ := hP
  have hx := Bd.exec
  obtain ⟨E_a1, F_coder_a1, F_count_a1, F_value_a1, kd, vd, B, hvd⟩ := id SB
  have E_a2 := S.1
  have CS0 := CS.ext O.2
  have hby := Bd.bytes
  have hml : c.maxLocals = 3 := hml0
  have hown : s.vm.findClass "java/lang/AbstractStringBuilder" = some m.cls := findClass_of_methodNamed Bd.named
  have hnm := (name_of_methodNamed Bd.named Bd.method).1
  have X0 : Stand p l e ({ frames := 4, cells := 1, slots := 34, locals := 62 } : Room) s m #[(.ref a1), (.ref a2)] below meth c s₁ [] 0 0 := Stand.of_body Bd
  have e0 : s₁.heap = h0 := by rw [← hh, Bd.state]; rfl
  have N0 := Fr.nil n0
  have pre0 : ∀ t, Steps p.tables e below (s₁.setTop (mkF m 0 #[.val (.ref a1), .val (.ref a2), .unset] [])) t → Steps p.tables e below (s₁.setTop (entryFrame m #[(.ref a1), (.ref a2)] 3)) t := fun t k => castTop (ef_10 m a1 a2) k
  obtain ⟨cq3, kq3, q3a, q3b, q3c⟩ := isOf hZ e0 E_a2
  obtain ⟨_, _, ⟨T3, L3, k3, n3⟩, -, X3, ⟨Lc3, hQ3, l3, y3, z3⟩, st3⟩ := X0.virtualBack hx (y := (⟨"java/lang/String", "length", "()I"⟩ : MethodName)) (z := (⟨"java/lang/String", "length", "()I"⟩ : MethodName)) hown (mvT hZ (hw _ (List.mem_of_getElem? (i := 62) rfl))) (mvT hZ (hw _ (List.mem_of_getElem? (i := 63) rfl))) (notFace_of_selects (args := #[]) (mvT hZ (hw _ (List.mem_of_getElem? (i := 65) rfl)))) (mvT hZ (hw _ (List.mem_of_getElem? (i := 65) rfl))) (mvT hZ (hw _ (List.mem_of_getElem? (i := 64) rfl))) (by decide) (backOf (W := 0) (r11n l Z a0 hw [] a2 n h0 n0 Z0 S CS0) hZ (hw _ (List.mem_of_getElem? (i := 66) rfl)) (hw _ (List.mem_of_getElem? (i := 24) rfl)) (by decide) (by decide)) q3a q3c (g := (mkF m 10 #[.val (.ref a1), .val (.ref a2), .unset] [(.ref a2)])) rfl (by rw [hml]; rfl) (Steps.refl _) (argsL := []) (rest := []) (lenOf pd_10_7 rfl) rfl (by show 2 * 0 + _ ≤ _; exact Nat.le_of_eq rfl) (hb hby d10_10) (fun _ _ => ⟨rfl, e0, (by decide : 0 + 0 ≤ _), (by decide : 0 + 0 ≤ _)⟩)
  dsimp only [Pt.U, Pt.locs, Pt.cells, Pt.slots] at X3 l3 y3 z3 st3 hQ3
  subst l3 y3 z3
  obtain ⟨rfl, N3q, e3⟩ := hQ3
  have N3 := Fr.app N0 N3q
  obtain ⟨T5, X5, e5, st5⟩ := getF X3 hx hZ hown (host := "") (Or.inl (hw _ (List.mem_of_getElem? (i := 75) rfl))) Via.refl e3 F_count_a1 (g := (mkF m 16 #[.val (.ref a1), .val (.ref a2), .val (.int (Int32.ofNat n))] [(.ref a1), (.ref a1)])) rfl rfl (hb hby d10_16)
  obtain ⟨cq6, q6, q6'⟩ := E_a1.cell
  obtain ⟨_, _, ⟨T6, L6, k6, n6⟩, -, X6, ⟨Lc6, hQ6, l6, y6, z6⟩, st6⟩ := X5.privateBack hx (y := (⟨"java/lang/AbstractStringBuilder", "ensureCapacityInternal", "(I)V"⟩ : MethodName)) hown (mvT hZ (hw _ (List.mem_of_getElem? (i := 77) rfl))) (mvT hZ (hw _ (List.mem_of_getElem? (i := 78) rfl))) (mvT hZ (own_selP (hw _ (List.mem_of_getElem? (i := 80) rfl)) (hw _ (List.mem_of_getElem? (i := 79) rfl)) (hw _ (List.mem_of_getElem? (i := 78) rfl)) (by decide))) (Cond.privateMethod_at (mvP hZ (hw _ (List.mem_of_getElem? (i := 79) rfl)) (args := #[]))) (mvT hZ (hw _ (List.mem_of_getElem? (i := 81) rfl))) (by decide) (backOf (W := 0) (r13w l Z a0 hw [] a1 ((Int32.ofNat 3) + (Int32.ofNat n)) t0 3 (3 + n) h0 n0 Z0 (Int32.ofNat_add 3 n).symm SB g_a1 (by omega)) hZ (hw _ (List.mem_of_getElem? (i := 81) rfl)) (hw _ (List.mem_of_getElem? (i := 44) rfl)) (by decide) (by decide)) (g := (mkF m 21 #[.val (.ref a1), .val (.ref a2), .val (.int (Int32.ofNat n))] [(.int ((Int32.ofNat 3) + (Int32.ofNat n))), (.ref a1)])) rfl (by rw [hml]; rfl) (Steps.refl _) (a := a1) (by rw [e5]; exact q6) q6' (argsL := [(.int ((Int32.ofNat 3) + (Int32.ofNat n)))]) (rest := []) (lenOf pd_10_4 rfl) rfl (by show 2 * 0 + _ ≤ _; exact Nat.le_of_eq rfl) (hb hby d10_21) (fun _ _ => ⟨rfl, e5, (by decide : 0 + 1 ≤ _), (by decide : 0 + 34 ≤ _)⟩)
  dsimp only [Pt.U, Pt.locs, Pt.cells, Pt.slots] at X6 l6 y6 z6 st6 hQ6
  subst l6 y6 z6
  obtain ⟨rfl, N6q, K6, SB6⟩ := hQ6
  obtain ⟨E6, Fc6, F6n, Fv6, kd6, vd6, B6, hvd6⟩ := id SB6
  have S6 := S.keep1 K6 E_a1 (by decide) (hw _ (List.mem_of_getElem? (i := 35) rfl))
  have O6 := O.keep K6 (allS g_a1 all0)
  have Z6 := Nat.le_trans Z0 K6.1
  have N6 := Fr.app N3 N6q
  obtain ⟨T8, X8, e8, st8⟩ := getF X6 hx hZ hown (host := "") (Or.inl (hw _ (List.mem_of_getElem? (i := 75) rfl))) Via.refl rfl F6n (g := (mkF m 26 #[.val (.ref a1), .val (.ref a2), .val (.int (Int32.ofNat n))] [(.ref a1), (.ref a1)])) rfl rfl (hb hby d10_26)
  obtain ⟨cq9, q9, q9'⟩ := E6.cell
  obtain ⟨_, _, ⟨T9, L9, k9, n9⟩, -, X9, ⟨Lc9, hQ9, l9, y9, z9⟩, st9⟩ := X8.privateBack hx (y := (⟨"java/lang/AbstractStringBuilder", "putStringAt", "(ILjava/lang/String;)V"⟩ : MethodName)) hown (mvT hZ (hw _ (List.mem_of_getElem? (i := 82) rfl))) (mvT hZ (hw _ (List.mem_of_getElem? (i := 83) rfl))) (mvT hZ (own_selP (hw _ (List.mem_of_getElem? (i := 85) rfl)) (hw _ (List.mem_of_getElem? (i := 84) rfl)) (hw _ (List.mem_of_getElem? (i := 83) rfl)) (by decide))) (Cond.privateMethod_at (mvP hZ (hw _ (List.mem_of_getElem? (i := 84) rfl)) (args := #[]))) (mvT hZ (hw _ (List.mem_of_getElem? (i := 86) rfl))) (by decide) (backOf (W := 0) (r14 l Z a0 hw [] a1 a2 h0.size n 3 34 kd6 vd6 T6.heap n0 Z6 E6 Fv6 Fc6 S6 (CS.ext O6.2) B6 hvd6 Z0 (by omega) (by decide)) hZ (hw _ (List.mem_of_getElem? (i := 86) rfl)) (hw _ (List.mem_of_getElem? (i := 44) rfl)) (by decide) (by decide)) (g := (mkF m 30 #[.val (.ref a1), .val (.ref a2), .val (.int (Int32.ofNat n))] [(.ref a2), (.int (Int32.ofNat 3)), (.ref a1)])) rfl (by rw [hml]; rfl) (Steps.refl _) (a := a1) (by rw [e8]; exact q9) q9' (argsL := [(.int (Int32.ofNat 3)), (.ref a2)]) (rest := []) (lenOf pd_10_9 rfl) rfl (by show 2 * 0 + _ ≤ _; exact Nat.le_of_eq rfl) (hb hby d10_30) (fun _ _ => ⟨rfl, e8, (by decide : 1 + 0 ≤ _), (by decide : 34 + 0 ≤ _)⟩)
  dsimp only [Pt.U, Pt.locs, Pt.cells, Pt.slots] at X9 l9 y9 z9 st9 hQ9
  subst l9 y9 z9
  obtain ⟨rfl, N9q, K9, vs9, V9, hv9⟩ := hQ9
  have hn2 : a1 ≠ h0.size := Exa.neArv E6 B6 (hw _ (List.mem_of_getElem? (i := 35) rfl))
  have F9n := F6n.keep K9 (ninS hn2 nin0)
  have E9 := E6.keep K9
  have N9 := Fr.app N6 N9q
  obtain ⟨T11, X11, e11, st11⟩ := getF X9 hx hZ hown (host := "") (Or.inl (hw _ (List.mem_of_getElem? (i := 75) rfl))) Via.refl rfl F9n (g := (mkF m 35 #[.val (.ref a1), .val (.ref a2), .val (.int (Int32.ofNat n))] [(.ref a1), (.ref a1)])) rfl rfl (hb hby d10_35)
  obtain ⟨T12, h12, X12, e12, W12, st12⟩ := putF X11 hx hZ hown (host := "") (Or.inl (hw _ (List.mem_of_getElem? (i := 75) rfl))) Via.refl e11 F9n E9 (Or.inl (hw _ (List.mem_of_getElem? (i := 76) rfl))) (hw _ (List.mem_of_getElem? (i := 35) rfl)) (ty := .int) (by decide) rfl rfl (g := (mkF m 40 #[.val (.ref a1), .val (.ref a2), .val (.int (Int32.ofNat n))] [(.int ((Int32.ofNat 3) + (Int32.ofNat n))), (.ref a1)])) rfl rfl (hb hby d10_40)
  have Fw12 := F9n.same W12
  have K12 : Keep h0 h12 [a1] := (K6.trans K9 (allS (Or.inr (Nat.le_refl _)) all0)).wr W12 (Or.inl (List.mem_of_getElem? (i := 0) rfl))
  have N12 := Fr.snoc X12 N9 g_a1
  obtain ⟨fs, hr, hrun, hended, hW, hsame⟩ := X12.leave (v := some (.ref a1)) (fun h => by rw [Bd.returns] at h; cases h)
  refine ⟨_, _, pre0 _ ?_, hrun, hended, _, _, rfl, ?_, ⟨_, rfl⟩, hW, hsame.mono (by decide) (by decide)⟩
  · show Steps p.tables e below (s₁.setTop (mkF m 0 #[.val (.ref a1), .val (.ref a2), .unset] [])) _
    refine XS.aloadN X0.here hx rfl (hb hby d10_0) rfl rfl ?_
    show Steps p.tables e below (s₁.setTop (mkF m 1 #[.val (.ref a1), .val (.ref a2), .unset] [(.ref a2)])) _
    refine XS.ifnonnullYes X0.here hx rfl (pc0 := 1) (pc' := 9) rfl (hb hby d10_1) rfl (by decide) (by decide) ?_
    show Steps p.tables e below (s₁.setTop (mkF m 9 #[.val (.ref a1), .val (.ref a2), .unset] [])) _
    refine XS.aloadN X0.here hx rfl (hb hby d10_9) rfl rfl ?_
    show Steps p.tables e below (s₁.setTop (mkF m 10 #[.val (.ref a1), .val (.ref a2), .unset] [(.ref a2)])) _
    refine st3.trans ?_
    show Steps p.tables e below (T3.setTop (mkF m 13 #[.val (.ref a1), .val (.ref a2), .unset] [(.int (Int32.ofNat n))])) _
    refine XS.istoreN X3.here hx rfl (hb hby d10_13) rfl (l' := #[.val (.ref a1), .val (.ref a2), .val (.int (Int32.ofNat n))]) rfl ?_
    show Steps p.tables e below (T3.setTop (mkF m 14 #[.val (.ref a1), .val (.ref a2), .val (.int (Int32.ofNat n))] [])) _
    refine XS.aloadN X3.here hx rfl (hb hby d10_14) rfl rfl ?_
    show Steps p.tables e below (T3.setTop (mkF m 15 #[.val (.ref a1), .val (.ref a2), .val (.int (Int32.ofNat n))] [(.ref a1)])) _
    refine XS.aloadN X3.here hx rfl (hb hby d10_15) rfl rfl ?_
    show Steps p.tables e below (T3.setTop (mkF m 16 #[.val (.ref a1), .val (.ref a2), .val (.int (Int32.ofNat n))] [(.ref a1), (.ref a1)])) _
    refine st5 _ ?_
    show Steps p.tables e below (T5.setTop (mkF m 19 #[.val (.ref a1), .val (.ref a2), .val (.int (Int32.ofNat n))] [(.int (Int32.ofNat 3)), (.ref a1)])) _
    refine XS.iloadN X5.here hx rfl (hb hby d10_19) rfl ?_
    show Steps p.tables e below (T5.setTop (mkF m 20 #[.val (.ref a1), .val (.ref a2), .val (.int (Int32.ofNat n))] [(.int (Int32.ofNat n)), (.int (Int32.ofNat 3)), (.ref a1)])) _
    refine XS.iadd X5.here hx rfl (hb hby d10_20) rfl ?_
    show Steps p.tables e below (T5.setTop (mkF m 21 #[.val (.ref a1), .val (.ref a2), .val (.int (Int32.ofNat n))] [(.int ((Int32.ofNat 3) + (Int32.ofNat n))), (.ref a1)])) _
    refine st6.trans ?_
    show Steps p.tables e below (T6.setTop (mkF m 24 #[.val (.ref a1), .val (.ref a2), .val (.int (Int32.ofNat n))] [])) _
    refine XS.aloadN X6.here hx rfl (hb hby d10_24) rfl rfl ?_
    show Steps p.tables e below (T6.setTop (mkF m 25 #[.val (.ref a1), .val (.ref a2), .val (.int (Int32.ofNat n))] [(.ref a1)])) _
    refine XS.aloadN X6.here hx rfl (hb hby d10_25) rfl rfl ?_
    show Steps p.tables e below (T6.setTop (mkF m 26 #[.val (.ref a1), .val (.ref a2), .val (.int (Int32.ofNat n))] [(.ref a1), (.ref a1)])) _
    refine st8 _ ?_
    show Steps p.tables e below (T8.setTop (mkF m 29 #[.val (.ref a1), .val (.ref a2), .val (.int (Int32.ofNat n))] [(.int (Int32.ofNat 3)), (.ref a1)])) _
    refine XS.aloadN X8.here hx rfl (hb hby d10_29) rfl rfl ?_
    show Steps p.tables e below (T8.setTop (mkF m 30 #[.val (.ref a1), .val (.ref a2), .val (.int (Int32.ofNat n))] [(.ref a2), (.int (Int32.ofNat 3)), (.ref a1)])) _
    refine st9.trans ?_
    show Steps p.tables e below (T9.setTop (mkF m 33 #[.val (.ref a1), .val (.ref a2), .val (.int (Int32.ofNat n))] [])) _
    refine XS.aloadN X9.here hx rfl (hb hby d10_33) rfl rfl ?_
    show Steps p.tables e below (T9.setTop (mkF m 34 #[.val (.ref a1), .val (.ref a2), .val (.int (Int32.ofNat n))] [(.ref a1)])) _
    refine XS.dup X9.here hx rfl (hb hby d10_34) rfl rfl ?_
    show Steps p.tables e below (T9.setTop (mkF m 35 #[.val (.ref a1), .val (.ref a2), .val (.int (Int32.ofNat n))] [(.ref a1), (.ref a1)])) _
    refine st11 _ ?_
    show Steps p.tables e below (T11.setTop (mkF m 38 #[.val (.ref a1), .val (.ref a2), .val (.int (Int32.ofNat n))] [(.int (Int32.ofNat 3)), (.ref a1)])) _
    refine XS.iloadN X11.here hx rfl (hb hby d10_38) rfl ?_
    show Steps p.tables e below (T11.setTop (mkF m 39 #[.val (.ref a1), .val (.ref a2), .val (.int (Int32.ofNat n))] [(.int (Int32.ofNat n)), (.int (Int32.ofNat 3)), (.ref a1)])) _
    refine XS.iadd X11.here hx rfl (hb hby d10_39) rfl ?_
    show Steps p.tables e below (T11.setTop (mkF m 40 #[.val (.ref a1), .val (.ref a2), .val (.int (Int32.ofNat n))] [(.int ((Int32.ofNat 3) + (Int32.ofNat n))), (.ref a1)])) _
    refine st12 _ ?_
    show Steps p.tables e below (T12.setTop (mkF m 43 #[.val (.ref a1), .val (.ref a2), .val (.int (Int32.ofNat n))] [])) _
    refine XS.aloadN X12.here hx rfl (hb hby d10_43) rfl rfl ?_
    show Steps p.tables e below (T12.setTop (mkF m 44 #[.val (.ref a1), .val (.ref a2), .val (.int (Int32.ofNat n))] [(.ref a1)])) _
    jvm_step X12.here [X12.here.top, hx, (hb hby d10_44), X12.method', Bd.returns, Value.isRef, FieldType.isReference]
    first | (intro acts; rw [hr _ acts rfl rfl rfl]) | rw [hr _ _ rfl rfl rfl]
    exact Steps.refl _
  · show Q10 Z a1 [a1] (3 + n) 34 h0.size h0 n0 _ T12.heap _
    rw [e12]
    refine ⟨rfl, N12, K12, E9.wr W12, (Fc6.keep K9 (ninS hn2 nin0)).other W12 (Or.inr (slot_ne (Or.inl (hw _ (List.mem_of_getElem? (i := 51) rfl))) (Or.inl (hw _ (List.mem_of_getElem? (i := 76) rfl))) (by decide) (t := .byte) (t' := .int) (by decide) (by decide))), ?_, (Fv6.keep K9 (ninS hn2 nin0)).other W12 (Or.inr (slot_ne (Or.inl (hw _ (List.mem_of_getElem? (i := 49) rfl))) (Or.inl (hw _ (List.mem_of_getElem? (i := 76) rfl))) (by decide) (t := (.array .byte)) (t' := .int) (by decide) (by decide))), kd6, vs9, V9.other W12 hn2.symm, hv9⟩
    rw [Int32.ofNat_add]; exact Fw12
theorem d9_0 : decode jdk_67_method_7_code 0 = .ok (.aload_n 0, 1) := by decide +kernel
theorem d9_1 : decode jdk_67_method_7_code 1 = .ok (.aload_n 1, 1) := by decide +kernel
theorem d9_2 : decode jdk_67_method_7_code 2 = .ok (.invokespecial 29, 3) := by decide +kernel
theorem d9_5 : decode jdk_67_method_7_code 5 = .ok (.pop, 1) := by decide +kernel
theorem d9_6 : decode jdk_67_method_7_code 6 = .ok (.aload_n 0, 1) := by decide +kernel
theorem d9_7 : decode jdk_67_method_7_code 7 = .ok (.areturn, 1) := by decide +kernel
theorem pn_9 : plainName "java/lang/StringBuilder" = true := by first | (simp [plainName, overriddenIn]; done) | decide +kernel
theorem pd_9_6 : parseMethodDescriptor "(Ljava/lang/String;)Ljava/lang/AbstractStringBuilder;" = some ⟨[(.object "java/lang/String")], some (.object "java/lang/AbstractStringBuilder")⟩ := by decide +kernel
theorem ef_9 (m : MethodId) (x0 : Addr) (x1 : Addr) : entryFrame m #[(.ref x0), (.ref x1)] 2 = mkF m 0 #[.val (.ref x0), .val (.ref x1)] [] := by first | (simp [entryFrame, mkF, argsToLocals, Value.category]; done) | rfl
set_option maxRecDepth 65536 in
set_option maxHeartbeats 40000000 in
theorem r9a (l : Launch) (Z : State) (a0 : Array Value) (hw : ∀ d ∈ tables_1, d.before a0 Z = true) (ws : List Jvm.Cond) (a1 : Addr) (a2 : Addr) (t0 : Addr) (h0 : Heap) (n0 : Nat) (Z0 : n0 ≤ h0.size) (SB : own_SBv Z h0 a1 0 16 t0) (S : own_Str Z h0 a2 3) (g_a1 : n0 ≤ a1) (g_t0 : n0 ≤ t0) (CS : own_CS Z Z.heap) (O : Old Z n0 h0) :
    MetFree l (⟨"java/lang/StringBuilder", "append", "(Ljava/lang/String;)Ljava/lang/StringBuilder;"⟩ : MethodName) (head1 (Jvm.Cond.code (⟨"java/lang/StringBuilder", "append", "(Ljava/lang/String;)Ljava/lang/StringBuilder;"⟩ : MethodName) jdk_67_method_7_code 2 (some (.object "java/lang/StringBuilder")) :: ws) ({ frames := 5, cells := 0, slots := 0, locals := 76 } : Room)) (fun a U => a = #[(.ref a1), (.ref a2)] ∧ Z.Warmed39 U.vm ∧ U.heap = h0) (fun _ _ _ _ _ => True) (fun _ U o U' => ∃ v L, o = .returned v ∧ Q10 Z a1 [a1, t0] 3 16 t0 h0 n0 v U'.heap L ∧ FrameEnd U o U' L ({ frames := 5, cells := 0, slots := 0, locals := 76 } : Room).cells ({ frames := 5, cells := 0, slots := 0, locals := 76 } : Room).slots) := by
  refine MetFree.of_bodySF (plainFor_of_name pn_9) hisR ?_
  intro p e s m args below meth c s₁ Bd hml0 hP hK
  obtain ⟨rfl, hZ, hh⟩ := hP
  have hx := Bd.exec
  have E_a1 := SB.1
  have hby := Bd.bytes
  have hml : c.maxLocals = 2 := hml0
  have hown : s.vm.findClass "java/lang/StringBuilder" = some m.cls := findClass_of_methodNamed Bd.named
  have hnm := (name_of_methodNamed Bd.named Bd.method).1
  have X0 : Stand p l e ({ frames := 5, cells := 0, slots := 0, locals := 76 } : Room) s m #[(.ref a1), (.ref a2)] below meth c s₁ [] 0 0 := Stand.of_body Bd
  have e0 : s₁.heap = h0 := by rw [← hh, Bd.state]; rfl
  have N0 := Fr.nil n0
  have pre0 : ∀ t, Steps p.tables e below (s₁.setTop (mkF m 0 #[.val (.ref a1), .val (.ref a2)] [])) t → Steps p.tables e below (s₁.setTop (entryFrame m #[(.ref a1), (.ref a2)] 2)) t := fun t k => castTop (ef_9 m a1 a2) k
  obtain ⟨_, _, ⟨T3, L3, k3, n3⟩, -, X3, ⟨Lc3, hQ3, l3, y3, z3⟩, st3⟩ := superBack X0 hx hZ (y := (⟨"java/lang/AbstractStringBuilder", "append", "(Ljava/lang/String;)Ljava/lang/AbstractStringBuilder;"⟩ : MethodName)) hown (hw _ (List.mem_of_getElem? (i := 57) rfl)) (own_same (y := (⟨"java/lang/AbstractStringBuilder", "append", "(Ljava/lang/String;)Ljava/lang/AbstractStringBuilder;"⟩ : MethodName)) (own_nf (notFace_of_selects (hw _ (List.mem_of_getElem? (i := 80) rfl))) (hw _ (List.mem_of_getElem? (i := 78) rfl)) rfl) (hw _ (List.mem_of_getElem? (i := 58) rfl)) (by decide)) (hw _ (List.mem_of_getElem? (i := 58) rfl)) (hw _ (List.mem_of_getElem? (i := 59) rfl)) (by decide) (backOf (W := 0) (r10a l Z a0 hw [] a1 a2 t0 h0 n0 Z0 SB S g_a1 g_t0 CS O) hZ (hw _ (List.mem_of_getElem? (i := 61) rfl)) (hw _ (List.mem_of_getElem? (i := 44) rfl)) (by decide) (by decide)) e0 (Ins.self E_a1) (g := (mkF m 2 #[.val (.ref a1), .val (.ref a2)] [(.ref a2), (.ref a1)])) rfl (by rw [hml]; rfl) (hw _ (List.mem_of_getElem? (i := 61) rfl)) (argsL := [(.ref a2)]) (rest := []) (lenOf pd_9_6 rfl) rfl (by show 2 * 0 + _ ≤ _; exact Nat.le_of_eq rfl) (hb hby d9_2) (fun _ _ => ⟨rfl, e0, (by decide : 0 + 0 ≤ _), (by decide : 0 + 0 ≤ _)⟩)
  dsimp only [Pt.U, Pt.locs, Pt.cells, Pt.slots] at X3 l3 y3 z3 st3 hQ3
  subst l3 y3 z3
  obtain ⟨rfl, N3q, Qq⟩ := hQ3
  have N3 := Fr.app N0 N3q
  obtain ⟨fs, hr, hrun, hended, hW, hsame⟩ := X3.leave (v := some (.ref a1)) (fun h => by rw [Bd.returns] at h; cases h)
  refine ⟨_, _, pre0 _ ?_, hrun, hended, _, _, rfl, ?_, ⟨_, rfl⟩, hW, hsame.mono (by decide) (by decide)⟩
  · show Steps p.tables e below (s₁.setTop (mkF m 0 #[.val (.ref a1), .val (.ref a2)] [])) _
    refine XS.aloadN X0.here hx rfl (hb hby d9_0) rfl rfl ?_
    show Steps p.tables e below (s₁.setTop (mkF m 1 #[.val (.ref a1), .val (.ref a2)] [(.ref a1)])) _
    refine XS.aloadN X0.here hx rfl (hb hby d9_1) rfl rfl ?_
    show Steps p.tables e below (s₁.setTop (mkF m 2 #[.val (.ref a1), .val (.ref a2)] [(.ref a2), (.ref a1)])) _
    refine st3.trans ?_
    show Steps p.tables e below (T3.setTop (mkF m 5 #[.val (.ref a1), .val (.ref a2)] [(.ref a1)])) _
    refine XS.pop X3.here hx rfl (hb hby d9_5) rfl rfl ?_
    show Steps p.tables e below (T3.setTop (mkF m 6 #[.val (.ref a1), .val (.ref a2)] [])) _
    refine XS.aloadN X3.here hx rfl (hb hby d9_6) rfl rfl ?_
    show Steps p.tables e below (T3.setTop (mkF m 7 #[.val (.ref a1), .val (.ref a2)] [(.ref a1)])) _
    jvm_step X3.here [X3.here.top, hx, (hb hby d9_7), X3.method', Bd.returns, Value.isRef, FieldType.isReference]
    first | (intro acts; rw [hr _ acts rfl rfl rfl]) | rw [hr _ _ rfl rfl rfl]
    exact Steps.refl _
  · show Q10 Z a1 [a1, t0] 3 16 t0 h0 n0 _ T3.heap _
    exact ⟨rfl, N3, Qq⟩
set_option maxRecDepth 65536 in
set_option maxHeartbeats 40000000 in
theorem r9g (l : Launch) (Z : State) (a0 : Array Value) (hw : ∀ d ∈ tables_1, d.before a0 Z = true) (ws : List Jvm.Cond) (a1 : Addr) (a2 : Addr) (t0 : Addr) (n : Nat) (h0 : Heap) (n0 : Nat) (Z0 : n0 ≤ h0.size) (SB : own_SBv Z h0 a1 3 16 t0) (S : own_Str Z h0 a2 n) (g_a1 : n0 ≤ a1) (g_t0 : n0 ≤ t0) (CS : own_CS Z Z.heap) (O : Old Z n0 h0) (hn : n = 17 ∨ n = 18) :
    MetFree l (⟨"java/lang/StringBuilder", "append", "(Ljava/lang/String;)Ljava/lang/StringBuilder;"⟩ : MethodName) (head1 (Jvm.Cond.code (⟨"java/lang/StringBuilder", "append", "(Ljava/lang/String;)Ljava/lang/StringBuilder;"⟩ : MethodName) jdk_67_method_7_code 2 (some (.object "java/lang/StringBuilder")) :: ws) ({ frames := 5, cells := 1, slots := 34, locals := 76 } : Room)) (fun a U => a = #[(.ref a1), (.ref a2)] ∧ Z.Warmed39 U.vm ∧ U.heap = h0) (fun _ _ _ _ _ => True) (fun _ U o U' => ∃ v L, o = .returned v ∧ Q10 Z a1 [a1] (3 + n) 34 h0.size h0 n0 v U'.heap L ∧ FrameEnd U o U' L ({ frames := 5, cells := 1, slots := 34, locals := 76 } : Room).cells ({ frames := 5, cells := 1, slots := 34, locals := 76 } : Room).slots) := by
  refine MetFree.of_bodySF (plainFor_of_name pn_9) hisR ?_
  intro p e s m args below meth c s₁ Bd hml0 hP hK
  obtain ⟨rfl, hZ, hh⟩ := hP
  have hx := Bd.exec
  have E_a1 := SB.1
  have hby := Bd.bytes
  have hml : c.maxLocals = 2 := hml0
  have hown : s.vm.findClass "java/lang/StringBuilder" = some m.cls := findClass_of_methodNamed Bd.named
  have hnm := (name_of_methodNamed Bd.named Bd.method).1
  have X0 : Stand p l e ({ frames := 5, cells := 1, slots := 34, locals := 76 } : Room) s m #[(.ref a1), (.ref a2)] below meth c s₁ [] 0 0 := Stand.of_body Bd
  have e0 : s₁.heap = h0 := by rw [← hh, Bd.state]; rfl
  have N0 := Fr.nil n0
  have pre0 : ∀ t, Steps p.tables e below (s₁.setTop (mkF m 0 #[.val (.ref a1), .val (.ref a2)] [])) t → Steps p.tables e below (s₁.setTop (entryFrame m #[(.ref a1), (.ref a2)] 2)) t := fun t k => castTop (ef_9 m a1 a2) k
  obtain ⟨_, _, ⟨T3, L3, k3, n3⟩, -, X3, ⟨Lc3, hQ3, l3, y3, z3⟩, st3⟩ := superBack X0 hx hZ (y := (⟨"java/lang/AbstractStringBuilder", "append", "(Ljava/lang/String;)Ljava/lang/AbstractStringBuilder;"⟩ : MethodName)) hown (hw _ (List.mem_of_getElem? (i := 57) rfl)) (own_same (y := (⟨"java/lang/AbstractStringBuilder", "append", "(Ljava/lang/String;)Ljava/lang/AbstractStringBuilder;"⟩ : MethodName)) (own_nf (notFace_of_selects (hw _ (List.mem_of_getElem? (i := 80) rfl))) (hw _ (List.mem_of_getElem? (i := 78) rfl)) rfl) (hw _ (List.mem_of_getElem? (i := 58) rfl)) (by decide)) (hw _ (List.mem_of_getElem? (i := 58) rfl)) (hw _ (List.mem_of_getElem? (i := 59) rfl)) (by decide) (backOf (W := 0) (r10g l Z a0 hw [] a1 a2 t0 n h0 n0 Z0 SB S g_a1 g_t0 CS O hn) hZ (hw _ (List.mem_of_getElem? (i := 61) rfl)) (hw _ (List.mem_of_getElem? (i := 44) rfl)) (by decide) (by decide)) e0 (Ins.self E_a1) (g := (mkF m 2 #[.val (.ref a1), .val (.ref a2)] [(.ref a2), (.ref a1)])) rfl (by rw [hml]; rfl) (hw _ (List.mem_of_getElem? (i := 61) rfl)) (argsL := [(.ref a2)]) (rest := []) (lenOf pd_9_6 rfl) rfl (by show 2 * 0 + _ ≤ _; exact Nat.le_of_eq rfl) (hb hby d9_2) (fun _ _ => ⟨rfl, e0, (by decide : 0 + 1 ≤ _), (by decide : 0 + 34 ≤ _)⟩)
  dsimp only [Pt.U, Pt.locs, Pt.cells, Pt.slots] at X3 l3 y3 z3 st3 hQ3
  subst l3 y3 z3
  obtain ⟨rfl, N3q, Qq⟩ := hQ3
  have N3 := Fr.app N0 N3q
  obtain ⟨fs, hr, hrun, hended, hW, hsame⟩ := X3.leave (v := some (.ref a1)) (fun h => by rw [Bd.returns] at h; cases h)
  refine ⟨_, _, pre0 _ ?_, hrun, hended, _, _, rfl, ?_, ⟨_, rfl⟩, hW, hsame.mono (by decide) (by decide)⟩
  · show Steps p.tables e below (s₁.setTop (mkF m 0 #[.val (.ref a1), .val (.ref a2)] [])) _
    refine XS.aloadN X0.here hx rfl (hb hby d9_0) rfl rfl ?_
    show Steps p.tables e below (s₁.setTop (mkF m 1 #[.val (.ref a1), .val (.ref a2)] [(.ref a1)])) _
    refine XS.aloadN X0.here hx rfl (hb hby d9_1) rfl rfl ?_
    show Steps p.tables e below (s₁.setTop (mkF m 2 #[.val (.ref a1), .val (.ref a2)] [(.ref a2), (.ref a1)])) _
    refine st3.trans ?_
    show Steps p.tables e below (T3.setTop (mkF m 5 #[.val (.ref a1), .val (.ref a2)] [(.ref a1)])) _
    refine XS.pop X3.here hx rfl (hb hby d9_5) rfl rfl ?_
    show Steps p.tables e below (T3.setTop (mkF m 6 #[.val (.ref a1), .val (.ref a2)] [])) _
    refine XS.aloadN X3.here hx rfl (hb hby d9_6) rfl rfl ?_
    show Steps p.tables e below (T3.setTop (mkF m 7 #[.val (.ref a1), .val (.ref a2)] [(.ref a1)])) _
    jvm_step X3.here [X3.here.top, hx, (hb hby d9_7), X3.method', Bd.returns, Value.isRef, FieldType.isReference]
    first | (intro acts; rw [hr _ acts rfl rfl rfl]) | rw [hr _ _ rfl rfl rfl]
    exact Steps.refl _
  · show Q10 Z a1 [a1] (3 + n) 34 h0.size h0 n0 _ T3.heap _
    exact ⟨rfl, N3, Qq⟩
theorem d29_0 : decode jdk_65_method_131_code 0 = .ok (.iload_n 1, 1) := by decide +kernel
theorem d29_1 : decode jdk_65_method_131_code 1 = .ok (.iload_n 0, 1) := by decide +kernel
theorem d29_2 : decode jdk_65_method_131_code 2 = .ok (.if_icmp .ge 35, 3) := by decide +kernel
theorem d29_37 : decode jdk_65_method_131_code 37 = .ok (.return_, 1) := by decide +kernel
theorem pn_29 : plainName "java/util/Arrays" = true := by first | (simp [plainName, overriddenIn]; done) | decide +kernel
theorem ef_29 (m : MethodId) (x0 : Int32) (x1 : Int32) : entryFrame m #[(.int x0), (.int x1)] 2 = mkF m 0 #[.val (.int x0), .val (.int x1)] [] := by first | (simp [entryFrame, mkF, argsToLocals, Value.category]; done) | rfl
set_option maxRecDepth 65536 in
set_option maxHeartbeats 40000000 in
theorem r29 (l : Launch) (Z : State) (a0 : Array Value) (hw : ∀ d ∈ tables_1, d.before a0 Z = true) (ws : List Jvm.Cond) (p1 : Int32) (p2 : Int32) (h0 : Heap) (n0 : Nat) (Z0 : n0 ≤ h0.size) (hc2 : ¬ (p2 < p1)) :
    MetFree l (⟨"java/util/Arrays", "checkLength", "(II)V"⟩ : MethodName) (head1 (Jvm.Cond.code (⟨"java/util/Arrays", "checkLength", "(II)V"⟩ : MethodName) jdk_65_method_131_code 2 none :: ws) ({ frames := 0, cells := 0, slots := 0, locals := 0 } : Room)) (fun a U => a = #[(.int p1), (.int p2)] ∧ Z.Warmed39 U.vm ∧ U.heap = h0) (fun _ _ _ _ _ => True) (fun _ U o U' => ∃ v L, o = .returned v ∧ QR (none) h0 n0 v U'.heap L ∧ FrameEnd U o U' L ({ frames := 0, cells := 0, slots := 0, locals := 0 } : Room).cells ({ frames := 0, cells := 0, slots := 0, locals := 0 } : Room).slots) := by
  refine MetFree.of_bodySF (plainFor_of_name pn_29) hisR ?_
  intro p e s m args below meth c s₁ Bd hml0 hP hK
  obtain ⟨rfl, hZ, hh⟩ := hP
  have hx := Bd.exec
  have hby := Bd.bytes
  have hml : c.maxLocals = 2 := hml0
  have hown : s.vm.findClass "java/util/Arrays" = some m.cls := findClass_of_methodNamed Bd.named
  have hnm := (name_of_methodNamed Bd.named Bd.method).1
  have X0 : Stand p l e ({ frames := 0, cells := 0, slots := 0, locals := 0 } : Room) s m #[(.int p1), (.int p2)] below meth c s₁ [] 0 0 := Stand.of_body Bd
  have e0 : s₁.heap = h0 := by rw [← hh, Bd.state]; rfl
  have N0 := Fr.nil n0
  have pre0 : ∀ t, Steps p.tables e below (s₁.setTop (mkF m 0 #[.val (.int p1), .val (.int p2)] [])) t → Steps p.tables e below (s₁.setTop (entryFrame m #[(.int p1), (.int p2)] 2)) t := fun t k => castTop (ef_29 m p1 p2) k
  obtain ⟨fs, hr, hrun, hended, hW, hsame⟩ := X0.leave (v := none) (fun _ => rfl)
  refine ⟨_, _, pre0 _ ?_, hrun, hended, _, _, rfl, ?_, ⟨_, rfl⟩, hW, hsame.mono (by decide) (by decide)⟩
  · show Steps p.tables e below (s₁.setTop (mkF m 0 #[.val (.int p1), .val (.int p2)] [])) _
    refine XS.iloadN X0.here hx rfl (hb hby d29_0) rfl ?_
    show Steps p.tables e below (s₁.setTop (mkF m 1 #[.val (.int p1), .val (.int p2)] [(.int p2)])) _
    refine XS.iloadN X0.here hx rfl (hb hby d29_1) rfl ?_
    show Steps p.tables e below (s₁.setTop (mkF m 2 #[.val (.int p1), .val (.int p2)] [(.int p1), (.int p2)])) _
    refine XS.icmpYes X0.here hx rfl (pc0 := 2) (pc' := 37) rfl (hb hby d29_2) rfl (flt hc2).2.1 (by decide) (by decide) ?_
    show Steps p.tables e below (s₁.setTop (mkF m 37 #[.val (.int p1), .val (.int p2)] [])) _
    exact X0.returnOut hx Bd.returns (hb hby d29_37) hr
  · show QR (none) h0 n0 _ s₁.heap _
    rw [e0]
    exact ⟨rfl, N0, rfl⟩
def Q22 (Z : State) (a1 : Addr) (q : Nat) (h0 : Heap) (n0 : Nat) (v : Option Value) (h : Heap) (L : List Loc) : Prop := v = none ∧ Fr n0 L ∧ Keep h0 h [a1] ∧ own_Str Z h a1 q
def Q20 (Z : State) (q : Nat) (h0 : Heap) (n0 : Nat) (v : Option Value) (h : Heap) (L : List Loc) : Prop := v = some (.ref h0.size) ∧ Fr n0 L ∧ Keep h0 h [] ∧ own_Str Z h h0.size q
theorem d28_0 : decode jdk_65_method_133_code 0 = .ok (.iload_n 1, 1) := by decide +kernel
theorem d28_1 : decode jdk_65_method_133_code 1 = .ok (.iload_n 2, 1) := by decide +kernel
theorem d28_2 : decode jdk_65_method_133_code 2 = .ok (.invokestatic 343, 3) := by decide +kernel
theorem d28_5 : decode jdk_65_method_133_code 5 = .ok (.iload_n 2, 1) := by decide +kernel
theorem d28_6 : decode jdk_65_method_133_code 6 = .ok (.iload_n 1, 1) := by decide +kernel
theorem d28_7 : decode jdk_65_method_133_code 7 = .ok (.isub, 1) := by decide +kernel
theorem d28_8 : decode jdk_65_method_133_code 8 = .ok (.istore_n 3, 1) := by decide +kernel
theorem d28_9 : decode jdk_65_method_133_code 9 = .ok (.iload_n 3, 1) := by decide +kernel
theorem d28_10 : decode jdk_65_method_133_code 10 = .ok (.newarray .byte, 2) := by decide +kernel
theorem d28_12 : decode jdk_65_method_133_code 12 = .ok (.astore 4, 2) := by decide +kernel
theorem d28_14 : decode jdk_65_method_133_code 14 = .ok (.aload_n 0, 1) := by decide +kernel
theorem d28_15 : decode jdk_65_method_133_code 15 = .ok (.iload_n 1, 1) := by decide +kernel
theorem d28_16 : decode jdk_65_method_133_code 16 = .ok (.aload 4, 2) := by decide +kernel
theorem d28_18 : decode jdk_65_method_133_code 18 = .ok (.iconst 0, 1) := by decide +kernel
theorem d28_19 : decode jdk_65_method_133_code 19 = .ok (.aload_n 0, 1) := by decide +kernel
theorem d28_20 : decode jdk_65_method_133_code 20 = .ok (.arraylength, 1) := by decide +kernel
theorem d28_21 : decode jdk_65_method_133_code 21 = .ok (.iload_n 1, 1) := by decide +kernel
theorem d28_22 : decode jdk_65_method_133_code 22 = .ok (.isub, 1) := by decide +kernel
theorem d28_23 : decode jdk_65_method_133_code 23 = .ok (.iload_n 3, 1) := by decide +kernel
theorem d28_24 : decode jdk_65_method_133_code 24 = .ok (.invokestatic 304, 3) := by decide +kernel
theorem d28_27 : decode jdk_65_method_133_code 27 = .ok (.invokestatic 150, 3) := by decide +kernel
theorem d28_30 : decode jdk_65_method_133_code 30 = .ok (.aload 4, 2) := by decide +kernel
theorem d28_32 : decode jdk_65_method_133_code 32 = .ok (.areturn, 1) := by decide +kernel
theorem pn_28 : plainName "java/util/Arrays" = true := by first | (simp [plainName, overriddenIn]; done) | decide +kernel
theorem pd_28_22 : parseMethodDescriptor "(II)V" = some ⟨[.int, .int], none⟩ := by decide +kernel
theorem pd_28_0 : parseMethodDescriptor "(II)I" = some ⟨[.int, .int], some .int⟩ := by decide +kernel
theorem pd_28_12 : parseMethodDescriptor "(Ljava/lang/Object;ILjava/lang/Object;II)V" = some ⟨[(.object "java/lang/Object"), .int, (.object "java/lang/Object"), .int, .int], none⟩ := by decide +kernel
theorem ef_28 (m : MethodId) (x0 : Addr) (x1 : Int32) (x2 : Int32) : entryFrame m #[(.ref x0), (.int x1), (.int x2)] 5 = mkF m 0 #[.val (.ref x0), .val (.int x1), .val (.int x2), .unset, .unset] [] := by first | (simp [entryFrame, mkF, argsToLocals, Value.category]; done) | rfl
set_option maxRecDepth 65536 in
set_option maxHeartbeats 40000000 in
theorem r28_20 (l : Launch) (Z : State) (a0 : Array Value) (hw : ∀ d ∈ tables_1, d.before a0 Z = true) (ws : List Jvm.Cond) (a1 : Addr) (kd : ClassId) (vd : List Value) (h0 : Heap) (n0 : Nat) (Z0 : n0 ≤ h0.size) (B : Arv Z h0 a1 kd .byte (34 : Int32) vd (.int 0)) :
    MetFree l (⟨"java/util/Arrays", "copyOfRangeByte", "([BII)[B"⟩ : MethodName) (head1 (Jvm.Cond.code (⟨"java/util/Arrays", "copyOfRangeByte", "([BII)[B"⟩ : MethodName) jdk_65_method_133_code 5 (some (.array .byte)) :: ws) ({ frames := 1, cells := 1, slots := 20, locals := 18 } : Room)) (fun a U => a = #[(.ref a1), (.int (0 : Int32)), (.int (20 : Int32))] ∧ Z.Warmed39 U.vm ∧ U.heap = h0) (fun _ _ _ _ _ => True) (fun _ U o U' => ∃ v L, o = .returned v ∧ Q19 Z 20 h0 n0 v U'.heap L ∧ FrameEnd U o U' L ({ frames := 1, cells := 1, slots := 20, locals := 18 } : Room).cells ({ frames := 1, cells := 1, slots := 20, locals := 18 } : Room).slots) := by
  refine MetFree.of_bodySF (plainFor_of_name pn_28) hisR ?_
  intro p e s m args below meth c s₁ Bd hml0 hP hK
  obtain ⟨rfl, hZ, hh⟩ := hP
  have hx := Bd.exec
  obtain ⟨cl_a1, Ar_a1, qb, S_a1, N_a1, Hb, Gb⟩ := id B
  have hby := Bd.bytes
  have hml : c.maxLocals = 5 := hml0
  have hown : s.vm.findClass "java/util/Arrays" = some m.cls := findClass_of_methodNamed Bd.named
  have hnm := (name_of_methodNamed Bd.named Bd.method).1
  have X0 : Stand p l e ({ frames := 1, cells := 1, slots := 20, locals := 18 } : Room) s m #[(.ref a1), (.int (0 : Int32)), (.int (20 : Int32))] below meth c s₁ [] 0 0 := Stand.of_body Bd
  have e0 : s₁.heap = h0 := by rw [← hh, Bd.state]; rfl
  have N0 := Fr.nil n0
  have pre0 : ∀ t, Steps p.tables e below (s₁.setTop (mkF m 0 #[.val (.ref a1), .val (.int (0 : Int32)), .val (.int (20 : Int32)), .unset, .unset] [])) t → Steps p.tables e below (s₁.setTop (entryFrame m #[(.ref a1), (.int (0 : Int32)), (.int (20 : Int32))] 5)) t := fun t k => castTop (ef_28 m a1 (0 : Int32) (20 : Int32)) k
  obtain ⟨_, _, ⟨T4, L4, k4, n4⟩, -, X4, ⟨Lc4, hQ4, l4, y4, z4⟩, st4⟩ := Jvm.LawKit.callS X0 hx (y := (⟨"java/util/Arrays", "checkLength", "(II)V"⟩ : MethodName)) hown (mvT hZ (hw _ (List.mem_of_getElem? (i := 159) rfl))) (mvT hZ (hw _ (List.mem_of_getElem? (i := 160) rfl))) (mvT hZ (hw _ (List.mem_of_getElem? (i := 117) rfl))) (mvT hZ (hw _ (List.mem_of_getElem? (i := 161) rfl))) (by decide) (backOf (W := 0) (r29 l Z a0 hw [] (0 : Int32) (20 : Int32) h0 n0 Z0 (by decide)) hZ (hw _ (List.mem_of_getElem? (i := 161) rfl)) (hw _ (List.mem_of_getElem? (i := 117) rfl)) (by decide) (by decide)) (g := (mkF m 2 #[.val (.ref a1), .val (.int (0 : Int32)), .val (.int (20 : Int32)), .unset, .unset] [(.int (20 : Int32)), (.int (0 : Int32))])) rfl (by rw [hml]; rfl) (argsL := [(.int (0 : Int32)), (.int (20 : Int32))]) (rest := []) (lenOf pd_28_22 rfl) rfl (by show 2 * 0 + _ ≤ _; exact Nat.le_of_eq rfl) (hb hby d28_2) (fun _ _ => ⟨rfl, e0, (by decide : 0 + 0 ≤ _), (by decide : 0 + 0 ≤ _)⟩)
  dsimp only [Pt.U, Pt.locs, Pt.cells, Pt.slots] at X4 l4 y4 z4 st4 hQ4
  subst l4 y4 z4
  obtain ⟨rfl, N4q, e4⟩ := hQ4
  have N4 := Fr.app N0 N4q
  obtain ⟨T5, h5, k5, X5, e5, E5, A5, st5⟩ := newP X4 hx hZ (hw _ (List.mem_of_getElem? (i := 26) rfl)) e4 (g := (mkF m 10 #[.val (.ref a1), .val (.int (0 : Int32)), .val (.int (20 : Int32)), .val (.int ((20 : Int32) - (0 : Int32))), .unset] [(.int ((20 : Int32) - (0 : Int32)))])) rfl (hb hby d28_10) rfl (by decide) (cap := 20) (by decide) (by decide) (by decide) (by decide)
  obtain ⟨b5, g5⟩ : ∃ z, z = h0.size := ⟨_, rfl⟩
  rw [← g5] at A5 st5
  have V_b5 : Arv Z h5 b5 k5 .byte ((20 : Int32) - (0 : Int32)) [(.int (0 : Int32)), (.int (0 : Int32)), (.int (0 : Int32)), (.int (0 : Int32)), (.int (0 : Int32)), (.int (0 : Int32)), (.int (0 : Int32)), (.int (0 : Int32)), (.int (0 : Int32)), (.int (0 : Int32)), (.int (0 : Int32)), (.int (0 : Int32)), (.int (0 : Int32)), (.int (0 : Int32)), (.int (0 : Int32)), (.int (0 : Int32)), (.int (0 : Int32)), (.int (0 : Int32)), (.int (0 : Int32)), (.int (0 : Int32))] (.int (0 : Int32)) := (Arv.new A5 (by decide)).pad (pad_rep [] (.int (0 : Int32)) 20)
  have g_b5 : n0 ≤ b5 := Nat.le_trans Z0 (Nat.le_of_eq g5.symm)
  have sz_b5 : h0.size ≤ b5 := (Nat.le_trans (Keep.refl h0 []).1 (Nat.le_of_eq g5.symm))
  have K5 : Keep h0 h5 [] := (Keep.refl h0 []).ext E5
  obtain ⟨_, _, ⟨T6, L6, k6, n6⟩, -, X6, ⟨Lc6, hQ6, l6, y6, z6⟩, st6⟩ := Jvm.LawKit.callS X5 hx (y := (⟨"java/lang/Math", "min", "(II)I"⟩ : MethodName)) hown (mvT hZ (hw _ (List.mem_of_getElem? (i := 119) rfl))) (mvT hZ (hw _ (List.mem_of_getElem? (i := 2) rfl))) (mvT hZ (hw _ (List.mem_of_getElem? (i := 3) rfl))) (mvT hZ (hw _ (List.mem_of_getElem? (i := 4) rfl))) (by decide) (backOf (W := 4) (r1c l Z a0 hw [] ((34 : Int32) - (0 : Int32)) ((20 : Int32) - (0 : Int32)) ((20 : Int32) - (0 : Int32)) h5 n0 (Nat.le_trans Z0 E5.1) (by decide)) hZ (hw _ (List.mem_of_getElem? (i := 4) rfl)) (hw _ (List.mem_of_getElem? (i := 3) rfl)) (by decide) (by decide)) (g := (mkF m 24 #[.val (.ref a1), .val (.int (0 : Int32)), .val (.int (20 : Int32)), .val (.int ((20 : Int32) - (0 : Int32))), .val (.ref b5)] [(.int ((20 : Int32) - (0 : Int32))), (.int ((34 : Int32) - (0 : Int32))), (.int (0 : Int32)), (.ref b5), (.int (0 : Int32)), (.ref a1)])) rfl (by rw [hml]; rfl) (argsL := [(.int ((34 : Int32) - (0 : Int32))), (.int ((20 : Int32) - (0 : Int32)))]) (rest := [(.int (0 : Int32)), (.ref b5), (.int (0 : Int32)), (.ref a1)]) (lenOf pd_28_0 rfl) rfl (by show 2 * 0 + _ ≤ _; exact Nat.le_of_eq rfl) (hb hby d28_24) (fun _ _ => ⟨rfl, e5, (by decide : 1 + 0 ≤ _), (by decide : 20 + 0 ≤ _)⟩)
  dsimp only [Pt.U, Pt.locs, Pt.cells, Pt.slots] at X6 l6 y6 z6 st6 hQ6
  subst l6 y6 z6
  obtain ⟨rfl, N6q, e6⟩ := hQ6
  have N6 := Fr.app N4 N6q
  obtain ⟨T7, h7, L7, X7, e7, N7, K7, V7, st7⟩ := cpA X6 hx hZ hown (hw _ (List.mem_of_getElem? (i := 120) rfl)) (hw _ (List.mem_of_getElem? (i := 101) rfl)) (hw _ (List.mem_of_getElem? (i := 99) rfl)) (hw _ (List.mem_of_getElem? (i := 100) rfl)) e6 (B.ext E5) V_b5 (Or.inl ⟨rfl, rfl⟩) (by decide) (by decide) (by decide) (by decide) (by decide) rfl (by decide) N6 g_b5 (g := (mkF m 27 #[.val (.ref a1), .val (.int (0 : Int32)), .val (.int (20 : Int32)), .val (.int ((20 : Int32) - (0 : Int32))), .val (.ref b5)] [(.int ((20 : Int32) - (0 : Int32))), (.int (0 : Int32)), (.ref b5), (.int (0 : Int32)), (.ref a1)])) rfl (by rw [hml]; rfl) (rest := []) rfl (hb hby d28_27) (by decide) (W := 0) (by show 2 * 0 + _ ≤ _; exact Nat.le_of_eq rfl) (by decide)
  obtain ⟨fs, hr, hrun, hended, hW, hsame⟩ := X7.leave (v := some (.ref b5)) (fun h => by rw [Bd.returns] at h; cases h)
  refine ⟨_, _, pre0 _ ?_, hrun, hended, _, _, rfl, ?_, ⟨_, rfl⟩, hW, hsame.mono (by decide) (by decide)⟩
  · show Steps p.tables e below (s₁.setTop (mkF m 0 #[.val (.ref a1), .val (.int (0 : Int32)), .val (.int (20 : Int32)), .unset, .unset] [])) _
    refine XS.iloadN X0.here hx rfl (hb hby d28_0) rfl ?_
    show Steps p.tables e below (s₁.setTop (mkF m 1 #[.val (.ref a1), .val (.int (0 : Int32)), .val (.int (20 : Int32)), .unset, .unset] [(.int (0 : Int32))])) _
    refine XS.iloadN X0.here hx rfl (hb hby d28_1) rfl ?_
    show Steps p.tables e below (s₁.setTop (mkF m 2 #[.val (.ref a1), .val (.int (0 : Int32)), .val (.int (20 : Int32)), .unset, .unset] [(.int (20 : Int32)), (.int (0 : Int32))])) _
    refine st4 _ ?_
    show Steps p.tables e below (T4.setTop (mkF m 5 #[.val (.ref a1), .val (.int (0 : Int32)), .val (.int (20 : Int32)), .unset, .unset] [])) _
    refine XS.iloadN X4.here hx rfl (hb hby d28_5) rfl ?_
    show Steps p.tables e below (T4.setTop (mkF m 6 #[.val (.ref a1), .val (.int (0 : Int32)), .val (.int (20 : Int32)), .unset, .unset] [(.int (20 : Int32))])) _
    refine XS.iloadN X4.here hx rfl (hb hby d28_6) rfl ?_
    show Steps p.tables e below (T4.setTop (mkF m 7 #[.val (.ref a1), .val (.int (0 : Int32)), .val (.int (20 : Int32)), .unset, .unset] [(.int (0 : Int32)), (.int (20 : Int32))])) _
    refine XS.isub X4.here hx rfl (hb hby d28_7) rfl ?_
    show Steps p.tables e below (T4.setTop (mkF m 8 #[.val (.ref a1), .val (.int (0 : Int32)), .val (.int (20 : Int32)), .unset, .unset] [(.int ((20 : Int32) - (0 : Int32)))])) _
    refine XS.istoreN X4.here hx rfl (hb hby d28_8) rfl (l' := #[.val (.ref a1), .val (.int (0 : Int32)), .val (.int (20 : Int32)), .val (.int ((20 : Int32) - (0 : Int32))), .unset]) rfl ?_
    show Steps p.tables e below (T4.setTop (mkF m 9 #[.val (.ref a1), .val (.int (0 : Int32)), .val (.int (20 : Int32)), .val (.int ((20 : Int32) - (0 : Int32))), .unset] [])) _
    refine XS.iloadN X4.here hx rfl (hb hby d28_9) rfl ?_
    show Steps p.tables e below (T4.setTop (mkF m 10 #[.val (.ref a1), .val (.int (0 : Int32)), .val (.int (20 : Int32)), .val (.int ((20 : Int32) - (0 : Int32))), .unset] [(.int ((20 : Int32) - (0 : Int32)))])) _
    refine st5 _ ?_
    show Steps p.tables e below (T5.setTop (mkF m 12 #[.val (.ref a1), .val (.int (0 : Int32)), .val (.int (20 : Int32)), .val (.int ((20 : Int32) - (0 : Int32))), .unset] [(.ref b5)])) _
    refine XS.astore X5.here hx rfl (hb hby d28_12) rfl rfl (l' := #[.val (.ref a1), .val (.int (0 : Int32)), .val (.int (20 : Int32)), .val (.int ((20 : Int32) - (0 : Int32))), .val (.ref b5)]) rfl ?_
    show Steps p.tables e below (T5.setTop (mkF m 14 #[.val (.ref a1), .val (.int (0 : Int32)), .val (.int (20 : Int32)), .val (.int ((20 : Int32) - (0 : Int32))), .val (.ref b5)] [])) _
    refine XS.aloadN X5.here hx rfl (hb hby d28_14) rfl rfl ?_
    show Steps p.tables e below (T5.setTop (mkF m 15 #[.val (.ref a1), .val (.int (0 : Int32)), .val (.int (20 : Int32)), .val (.int ((20 : Int32) - (0 : Int32))), .val (.ref b5)] [(.ref a1)])) _
    refine XS.iloadN X5.here hx rfl (hb hby d28_15) rfl ?_
    show Steps p.tables e below (T5.setTop (mkF m 16 #[.val (.ref a1), .val (.int (0 : Int32)), .val (.int (20 : Int32)), .val (.int ((20 : Int32) - (0 : Int32))), .val (.ref b5)] [(.int (0 : Int32)), (.ref a1)])) _
    refine XS.aload X5.here hx rfl (hb hby d28_16) rfl rfl ?_
    show Steps p.tables e below (T5.setTop (mkF m 18 #[.val (.ref a1), .val (.int (0 : Int32)), .val (.int (20 : Int32)), .val (.int ((20 : Int32) - (0 : Int32))), .val (.ref b5)] [(.ref b5), (.int (0 : Int32)), (.ref a1)])) _
    refine XS.iconst X5.here hx rfl (hb hby d28_18) ?_
    show Steps p.tables e below (T5.setTop (mkF m 19 #[.val (.ref a1), .val (.int (0 : Int32)), .val (.int (20 : Int32)), .val (.int ((20 : Int32) - (0 : Int32))), .val (.ref b5)] [(.int (0 : Int32)), (.ref b5), (.int (0 : Int32)), (.ref a1)])) _
    refine XS.aloadN X5.here hx rfl (hb hby d28_19) rfl rfl ?_
    show Steps p.tables e below (T5.setTop (mkF m 20 #[.val (.ref a1), .val (.int (0 : Int32)), .val (.int (20 : Int32)), .val (.int ((20 : Int32) - (0 : Int32))), .val (.ref b5)] [(.ref a1), (.int (0 : Int32)), (.ref b5), (.int (0 : Int32)), (.ref a1)])) _
    refine X5.arraylength hx (by rw [e5]; exact (Ar_a1.ext E5).1) (State.isArrayOf_alike hZ.alike Ar_a1.2.1) (g := (mkF m 20 #[.val (.ref a1), .val (.int (0 : Int32)), .val (.int (20 : Int32)), .val (.int ((20 : Int32) - (0 : Int32))), .val (.ref b5)] [(.ref a1), (.int (0 : Int32)), (.ref b5), (.int (0 : Int32)), (.ref a1)])) rfl rfl (hb hby d28_20) _ ?_
    rw [len_of S_a1 N_a1]
    show Steps p.tables e below (T5.setTop (mkF m 21 #[.val (.ref a1), .val (.int (0 : Int32)), .val (.int (20 : Int32)), .val (.int ((20 : Int32) - (0 : Int32))), .val (.ref b5)] [(.int (34 : Int32)), (.int (0 : Int32)), (.ref b5), (.int (0 : Int32)), (.ref a1)])) _
    refine XS.iloadN X5.here hx rfl (hb hby d28_21) rfl ?_
    show Steps p.tables e below (T5.setTop (mkF m 22 #[.val (.ref a1), .val (.int (0 : Int32)), .val (.int (20 : Int32)), .val (.int ((20 : Int32) - (0 : Int32))), .val (.ref b5)] [(.int (0 : Int32)), (.int (34 : Int32)), (.int (0 : Int32)), (.ref b5), (.int (0 : Int32)), (.ref a1)])) _
    refine XS.isub X5.here hx rfl (hb hby d28_22) rfl ?_
    show Steps p.tables e below (T5.setTop (mkF m 23 #[.val (.ref a1), .val (.int (0 : Int32)), .val (.int (20 : Int32)), .val (.int ((20 : Int32) - (0 : Int32))), .val (.ref b5)] [(.int ((34 : Int32) - (0 : Int32))), (.int (0 : Int32)), (.ref b5), (.int (0 : Int32)), (.ref a1)])) _
    refine XS.iloadN X5.here hx rfl (hb hby d28_23) rfl ?_
    show Steps p.tables e below (T5.setTop (mkF m 24 #[.val (.ref a1), .val (.int (0 : Int32)), .val (.int (20 : Int32)), .val (.int ((20 : Int32) - (0 : Int32))), .val (.ref b5)] [(.int ((20 : Int32) - (0 : Int32))), (.int ((34 : Int32) - (0 : Int32))), (.int (0 : Int32)), (.ref b5), (.int (0 : Int32)), (.ref a1)])) _
    refine st6 _ ?_
    show Steps p.tables e below (T6.setTop (mkF m 27 #[.val (.ref a1), .val (.int (0 : Int32)), .val (.int (20 : Int32)), .val (.int ((20 : Int32) - (0 : Int32))), .val (.ref b5)] [(.int ((20 : Int32) - (0 : Int32))), (.int (0 : Int32)), (.ref b5), (.int (0 : Int32)), (.ref a1)])) _
    refine st7 _ ?_
    show Steps p.tables e below (T7.setTop (mkF m 30 #[.val (.ref a1), .val (.int (0 : Int32)), .val (.int (20 : Int32)), .val (.int ((20 : Int32) - (0 : Int32))), .val (.ref b5)] [])) _
    refine XS.aload X7.here hx rfl (hb hby d28_30) rfl rfl ?_
    show Steps p.tables e below (T7.setTop (mkF m 32 #[.val (.ref a1), .val (.int (0 : Int32)), .val (.int (20 : Int32)), .val (.int ((20 : Int32) - (0 : Int32))), .val (.ref b5)] [(.ref b5)])) _
    jvm_step X7.here [X7.here.top, hx, (hb hby d28_32), X7.method', Bd.returns, Value.isRef, FieldType.isReference]
    first | (intro acts; rw [hr _ acts rfl rfl rfl]) | rw [hr _ _ rfl rfl rfl]
    exact Steps.refl _
  · show Q19 Z 20 h0 n0 _ T7.heap _
    rw [e7]
    refine ⟨by rw [g5], N7, K5.trans K7 (allS (Or.inr sz_b5) all0), k5, _, by rw [← g5]; exact V7, ?_⟩
    simp
theorem d27_0 : decode jdk_65_method_132_code 0 = .ok (.iload_n 1, 1) := by decide +kernel
theorem d27_1 : decode jdk_65_method_132_code 1 = .ok (.ifCond .ne 9, 3) := by decide +kernel
theorem d27_4 : decode jdk_65_method_132_code 4 = .ok (.iload_n 2, 1) := by decide +kernel
theorem d27_5 : decode jdk_65_method_132_code 5 = .ok (.aload_n 0, 1) := by decide +kernel
theorem d27_6 : decode jdk_65_method_132_code 6 = .ok (.arraylength, 1) := by decide +kernel
theorem d27_7 : decode jdk_65_method_132_code 7 = .ok (.if_icmp .eq 10, 3) := by decide +kernel
theorem d27_10 : decode jdk_65_method_132_code 10 = .ok (.aload_n 0, 1) := by decide +kernel
theorem d27_11 : decode jdk_65_method_132_code 11 = .ok (.iload_n 1, 1) := by decide +kernel
theorem d27_12 : decode jdk_65_method_132_code 12 = .ok (.iload_n 2, 1) := by decide +kernel
theorem d27_13 : decode jdk_65_method_132_code 13 = .ok (.invokestatic 339, 3) := by decide +kernel
theorem d27_16 : decode jdk_65_method_132_code 16 = .ok (.areturn, 1) := by decide +kernel
theorem pn_27 : plainName "java/util/Arrays" = true := by first | (simp [plainName, overriddenIn]; done) | decide +kernel
theorem pd_27_21 : parseMethodDescriptor "([BII)[B" = some ⟨[(.array .byte), .int, .int], some (.array .byte)⟩ := by decide +kernel
theorem ef_27 (m : MethodId) (x0 : Addr) (x1 : Int32) (x2 : Int32) : entryFrame m #[(.ref x0), (.int x1), (.int x2)] 3 = mkF m 0 #[.val (.ref x0), .val (.int x1), .val (.int x2)] [] := by first | (simp [entryFrame, mkF, argsToLocals, Value.category]; done) | rfl
set_option maxRecDepth 65536 in
set_option maxHeartbeats 40000000 in
theorem r27_20 (l : Launch) (Z : State) (a0 : Array Value) (hw : ∀ d ∈ tables_1, d.before a0 Z = true) (ws : List Jvm.Cond) (a1 : Addr) (kd : ClassId) (vd : List Value) (h0 : Heap) (n0 : Nat) (Z0 : n0 ≤ h0.size) (B : Arv Z h0 a1 kd .byte (34 : Int32) vd (.int 0)) :
    MetFree l (⟨"java/util/Arrays", "copyOfRange", "([BII)[B"⟩ : MethodName) (head1 (Jvm.Cond.code (⟨"java/util/Arrays", "copyOfRange", "([BII)[B"⟩ : MethodName) jdk_65_method_132_code 3 (some (.array .byte)) :: ws) ({ frames := 2, cells := 1, slots := 20, locals := 34 } : Room)) (fun a U => a = #[(.ref a1), (.int (0 : Int32)), (.int (20 : Int32))] ∧ Z.Warmed39 U.vm ∧ U.heap = h0) (fun _ _ _ _ _ => True) (fun _ U o U' => ∃ v L, o = .returned v ∧ Q19 Z 20 h0 n0 v U'.heap L ∧ FrameEnd U o U' L ({ frames := 2, cells := 1, slots := 20, locals := 34 } : Room).cells ({ frames := 2, cells := 1, slots := 20, locals := 34 } : Room).slots) := by
  refine MetFree.of_bodySF (plainFor_of_name pn_27) hisR ?_
  intro p e s m args below meth c s₁ Bd hml0 hP hK
  obtain ⟨rfl, hZ, hh⟩ := hP
  have hx := Bd.exec
  obtain ⟨cl_a1, Ar_a1, qb, S_a1, N_a1, Hb, Gb⟩ := id B
  have hc1 : (0 : Int32) = (0 : Int32) := rfl
  have hc7 : ¬ ((20 : Int32) = (34 : Int32)) := by decide
  have hby := Bd.bytes
  have hml : c.maxLocals = 3 := hml0
  have hown : s.vm.findClass "java/util/Arrays" = some m.cls := findClass_of_methodNamed Bd.named
  have hnm := (name_of_methodNamed Bd.named Bd.method).1
  have X0 : Stand p l e ({ frames := 2, cells := 1, slots := 20, locals := 34 } : Room) s m #[(.ref a1), (.int (0 : Int32)), (.int (20 : Int32))] below meth c s₁ [] 0 0 := Stand.of_body Bd
  have e0 : s₁.heap = h0 := by rw [← hh, Bd.state]; rfl
  have N0 := Fr.nil n0
  have pre0 : ∀ t, Steps p.tables e below (s₁.setTop (mkF m 0 #[.val (.ref a1), .val (.int (0 : Int32)), .val (.int (20 : Int32))] [])) t → Steps p.tables e below (s₁.setTop (entryFrame m #[(.ref a1), (.int (0 : Int32)), (.int (20 : Int32))] 3)) t := fun t k => castTop (ef_27 m a1 (0 : Int32) (20 : Int32)) k
  obtain ⟨_, _, ⟨T4, L4, k4, n4⟩, -, X4, ⟨Lc4, hQ4, l4, y4, z4⟩, st4⟩ := Jvm.LawKit.callS X0 hx (y := (⟨"java/util/Arrays", "copyOfRangeByte", "([BII)[B"⟩ : MethodName)) hown (mvT hZ (hw _ (List.mem_of_getElem? (i := 156) rfl))) (mvT hZ (hw _ (List.mem_of_getElem? (i := 157) rfl))) (mvT hZ (hw _ (List.mem_of_getElem? (i := 117) rfl))) (mvT hZ (hw _ (List.mem_of_getElem? (i := 158) rfl))) (by decide) (backOf (W := 0) (r28_20 l Z a0 hw [] a1 kd vd h0 n0 Z0 B) hZ (hw _ (List.mem_of_getElem? (i := 158) rfl)) (hw _ (List.mem_of_getElem? (i := 117) rfl)) (by decide) (by decide)) (g := (mkF m 13 #[.val (.ref a1), .val (.int (0 : Int32)), .val (.int (20 : Int32))] [(.int (20 : Int32)), (.int (0 : Int32)), (.ref a1)])) rfl (by rw [hml]; rfl) (argsL := [(.ref a1), (.int (0 : Int32)), (.int (20 : Int32))]) (rest := []) (lenOf pd_27_21 rfl) rfl (by show 2 * 0 + _ ≤ _; exact Nat.le_of_eq rfl) (hb hby d27_13) (fun _ _ => ⟨rfl, e0, (by decide : 0 + 1 ≤ _), (by decide : 0 + 20 ≤ _)⟩)
  dsimp only [Pt.U, Pt.locs, Pt.cells, Pt.slots] at X4 l4 y4 z4 st4 hQ4
  subst l4 y4 z4
  obtain ⟨rfl, N4q, Qq⟩ := hQ4
  have N4 := Fr.app N0 N4q
  obtain ⟨fs, hr, hrun, hended, hW, hsame⟩ := X4.leave (v := some (.ref h0.size)) (fun h => by rw [Bd.returns] at h; cases h)
  refine ⟨_, _, pre0 _ ?_, hrun, hended, _, _, rfl, ?_, ⟨_, rfl⟩, hW, hsame.mono (by decide) (by decide)⟩
  · show Steps p.tables e below (s₁.setTop (mkF m 0 #[.val (.ref a1), .val (.int (0 : Int32)), .val (.int (20 : Int32))] [])) _
    refine XS.iloadN X0.here hx rfl (hb hby d27_0) rfl ?_
    show Steps p.tables e below (s₁.setTop (mkF m 1 #[.val (.ref a1), .val (.int (0 : Int32)), .val (.int (20 : Int32))] [(.int (0 : Int32))])) _
    refine XS.ifNo X0.here hx rfl (hb hby d27_1) rfl ((if0 _ _).trans (teq hc1).2) ?_
    show Steps p.tables e below (s₁.setTop (mkF m 4 #[.val (.ref a1), .val (.int (0 : Int32)), .val (.int (20 : Int32))] [])) _
    refine XS.iloadN X0.here hx rfl (hb hby d27_4) rfl ?_
    show Steps p.tables e below (s₁.setTop (mkF m 5 #[.val (.ref a1), .val (.int (0 : Int32)), .val (.int (20 : Int32))] [(.int (20 : Int32))])) _
    refine XS.aloadN X0.here hx rfl (hb hby d27_5) rfl rfl ?_
    show Steps p.tables e below (s₁.setTop (mkF m 6 #[.val (.ref a1), .val (.int (0 : Int32)), .val (.int (20 : Int32))] [(.ref a1), (.int (20 : Int32))])) _
    refine X0.arraylength hx (by rw [e0]; exact Ar_a1.1) (State.isArrayOf_alike hZ.alike Ar_a1.2.1) (g := (mkF m 6 #[.val (.ref a1), .val (.int (0 : Int32)), .val (.int (20 : Int32))] [(.ref a1), (.int (20 : Int32))])) rfl rfl (hb hby d27_6) _ ?_
    rw [len_of S_a1 N_a1]
    show Steps p.tables e below (s₁.setTop (mkF m 7 #[.val (.ref a1), .val (.int (0 : Int32)), .val (.int (20 : Int32))] [(.int (34 : Int32)), (.int (20 : Int32))])) _
    refine XS.icmpNo X0.here hx rfl (hb hby d27_7) rfl (feq hc7).1 ?_
    show Steps p.tables e below (s₁.setTop (mkF m 10 #[.val (.ref a1), .val (.int (0 : Int32)), .val (.int (20 : Int32))] [])) _
    refine XS.aloadN X0.here hx rfl (hb hby d27_10) rfl rfl ?_
    show Steps p.tables e below (s₁.setTop (mkF m 11 #[.val (.ref a1), .val (.int (0 : Int32)), .val (.int (20 : Int32))] [(.ref a1)])) _
    refine XS.iloadN X0.here hx rfl (hb hby d27_11) rfl ?_
    show Steps p.tables e below (s₁.setTop (mkF m 12 #[.val (.ref a1), .val (.int (0 : Int32)), .val (.int (20 : Int32))] [(.int (0 : Int32)), (.ref a1)])) _
    refine XS.iloadN X0.here hx rfl (hb hby d27_12) rfl ?_
    show Steps p.tables e below (s₁.setTop (mkF m 13 #[.val (.ref a1), .val (.int (0 : Int32)), .val (.int (20 : Int32))] [(.int (20 : Int32)), (.int (0 : Int32)), (.ref a1)])) _
    refine st4 _ ?_
    show Steps p.tables e below (T4.setTop (mkF m 16 #[.val (.ref a1), .val (.int (0 : Int32)), .val (.int (20 : Int32))] [(.ref h0.size)])) _
    jvm_step X4.here [X4.here.top, hx, (hb hby d27_16), X4.method', Bd.returns, Value.isRef, FieldType.isReference]
    first | (intro acts; rw [hr _ acts rfl rfl rfl]) | rw [hr _ _ rfl rfl rfl]
    exact Steps.refl _
  · show Q19 Z 20 h0 n0 _ T4.heap _
    exact ⟨rfl, N4, Qq⟩
theorem d22_0 : decode jdk_42_method_150_code 0 = .ok (.aload_n 0, 1) := by decide +kernel
theorem d22_1 : decode jdk_42_method_150_code 1 = .ok (.invokespecial 1, 3) := by decide +kernel
theorem d22_4 : decode jdk_42_method_150_code 4 = .ok (.aload_n 1, 1) := by decide +kernel
theorem d22_5 : decode jdk_42_method_150_code 5 = .ok (.invokevirtual 552, 3) := by decide +kernel
theorem d22_8 : decode jdk_42_method_150_code 8 = .ok (.astore_n 3, 1) := by decide +kernel
theorem d22_9 : decode jdk_42_method_150_code 9 = .ok (.aload_n 1, 1) := by decide +kernel
theorem d22_10 : decode jdk_42_method_150_code 10 = .ok (.invokevirtual 549, 3) := by decide +kernel
theorem d22_13 : decode jdk_42_method_150_code 13 = .ok (.istore 4, 2) := by decide +kernel
theorem d22_15 : decode jdk_42_method_150_code 15 = .ok (.aload_n 1, 1) := by decide +kernel
theorem d22_16 : decode jdk_42_method_150_code 16 = .ok (.invokevirtual 1047, 3) := by decide +kernel
theorem d22_19 : decode jdk_42_method_150_code 19 = .ok (.ifCond .eq 22, 3) := by decide +kernel
theorem d22_22 : decode jdk_42_method_150_code 22 = .ok (.aload_n 0, 1) := by decide +kernel
theorem d22_23 : decode jdk_42_method_150_code 23 = .ok (.iconst 0, 1) := by decide +kernel
theorem d22_24 : decode jdk_42_method_150_code 24 = .ok (.putfield 15, 3) := by decide +kernel
theorem d22_27 : decode jdk_42_method_150_code 27 = .ok (.aload_n 0, 1) := by decide +kernel
theorem d22_28 : decode jdk_42_method_150_code 28 = .ok (.aload_n 3, 1) := by decide +kernel
theorem d22_29 : decode jdk_42_method_150_code 29 = .ok (.iconst 0, 1) := by decide +kernel
theorem d22_30 : decode jdk_42_method_150_code 30 = .ok (.iload 4, 2) := by decide +kernel
theorem d22_32 : decode jdk_42_method_150_code 32 = .ok (.invokestatic 54, 3) := by decide +kernel
theorem d22_35 : decode jdk_42_method_150_code 35 = .ok (.putfield 9, 3) := by decide +kernel
theorem d22_38 : decode jdk_42_method_150_code 38 = .ok (.goto 59, 3) := by decide +kernel
theorem d22_97 : decode jdk_42_method_150_code 97 = .ok (.return_, 1) := by decide +kernel
theorem pn_22 : plainName "java/lang/String" = true := by first | (simp [plainName, overriddenIn]; done) | decide +kernel
theorem pd_22_19 : parseMethodDescriptor "()[B" = some ⟨[], some (.array .byte)⟩ := by decide +kernel
theorem pd_22_7 : parseMethodDescriptor "()I" = some ⟨[], some .int⟩ := by decide +kernel
theorem pd_22_20 : parseMethodDescriptor "()Z" = some ⟨[], some .boolean⟩ := by decide +kernel
theorem pd_22_21 : parseMethodDescriptor "([BII)[B" = some ⟨[(.array .byte), .int, .int], some (.array .byte)⟩ := by decide +kernel
theorem ef_22 (m : MethodId) (x0 : Addr) (x1 : Addr) : entryFrame m #[(.ref x0), (.ref x1), .null] 5 = mkF m 0 #[.val (.ref x0), .val (.ref x1), .val .null, .unset, .unset] [] := by first | (simp [entryFrame, mkF, argsToLocals, Value.category]; done) | rfl
set_option maxRecDepth 65536 in
set_option maxHeartbeats 40000000 in
theorem r22_20 (l : Launch) (Z : State) (a0 : Array Value) (hw : ∀ d ∈ tables_1, d.before a0 Z = true) (ws : List Jvm.Cond) (a1 : Addr) (a2 : Addr) (tb : Addr) (u_coder_a1 : Value) (u_value_a1 : Value) (h0 : Heap) (n0 : Nat) (Z0 : n0 ≤ h0.size) (SB : own_SBv Z h0 a2 20 34 tb) (E_a1 : Exa Z h0 a1 "java/lang/String") (F_coder_a1 : Fld Z h0 a1 "java/lang/String" "coder" "B" u_coder_a1) (g_a1 : n0 ≤ a1) (F_value_a1 : Fld Z h0 a1 "java/lang/String" "value" "[B" u_value_a1) (CS : own_CS Z h0) :
    MetFree l (⟨"java/lang/String", "<init>", "(Ljava/lang/AbstractStringBuilder;Ljava/lang/Void;)V"⟩ : MethodName) (head1 (Jvm.Cond.code (⟨"java/lang/String", "<init>", "(Ljava/lang/AbstractStringBuilder;Ljava/lang/Void;)V"⟩ : MethodName) jdk_42_method_150_code 5 none :: ws) ({ frames := 3, cells := 1, slots := 20, locals := 50 } : Room)) (fun a U => a = #[(.ref a1), (.ref a2), .null] ∧ Z.Warmed39 U.vm ∧ U.heap = h0) (fun _ _ _ _ _ => True) (fun _ U o U' => ∃ v L, o = .returned v ∧ Q22 Z a1 20 h0 n0 v U'.heap L ∧ FrameEnd U o U' L ({ frames := 3, cells := 1, slots := 20, locals := 50 } : Room).cells ({ frames := 3, cells := 1, slots := 20, locals := 50 } : Room).slots) := by
  refine MetFree.of_bodySF (plainFor_of_name pn_22) hisR ?_
  intro p e s m args below meth c s₁ Bd hml0 hP hK
  obtain ⟨rfl, hZ, hh⟩ := hP
  have hx := Bd.exec
  obtain ⟨E_a2, F_c2, F_n2, F_v2, kd, vd, B, hvd⟩ := id SB
  obtain ⟨zc, SC, hz⟩ := id CS
  have hby := Bd.bytes
  have hml : c.maxLocals = 5 := hml0
  have hown : s.vm.findClass "java/lang/String" = some m.cls := findClass_of_methodNamed Bd.named
  have hnm := (name_of_methodNamed Bd.named Bd.method).1
  have X0 : Stand p l e ({ frames := 3, cells := 1, slots := 20, locals := 50 } : Room) s m #[(.ref a1), (.ref a2), .null] below meth c s₁ [] 0 0 := Stand.of_body Bd
  have e0 : s₁.heap = h0 := by rw [← hh, Bd.state]; rfl
  have N0 := Fr.nil n0
  have pre0 : ∀ t, Steps p.tables e below (s₁.setTop (mkF m 0 #[.val (.ref a1), .val (.ref a2), .val .null, .unset, .unset] [])) t → Steps p.tables e below (s₁.setTop (entryFrame m #[(.ref a1), (.ref a2), .null] 5)) t := fun t k => castTop (ef_22 m a1 a2) k
  obtain ⟨T3, X3, e3, st3⟩ := initO X0 hx hZ hown (hw _ (List.mem_of_getElem? (i := 134) rfl)) (hw _ (List.mem_of_getElem? (i := 21) rfl)) (hw _ (List.mem_of_getElem? (i := 22) rfl)) e0 (g := (mkF m 1 #[.val (.ref a1), .val (.ref a2), .val .null, .unset, .unset] [(.ref a1)])) rfl (by rw [hml]; rfl) rfl (hb hby d22_1) (by decide) (W := 0) (by show 2 * 0 + _ ≤ _; exact Nat.le_of_eq rfl) (by decide)
  obtain ⟨cq4, kq4, q4a, q4b, q4c⟩ := isOf hZ e3 E_a2
  obtain ⟨_, _, ⟨T4, L4, k4, n4⟩, -, X4, ⟨Lc4, hQ4, l4, y4, z4⟩, st4⟩ := X3.virtualBack hx (y := (⟨"java/lang/AbstractStringBuilder", "getValue", "()[B"⟩ : MethodName)) (z := (⟨"java/lang/AbstractStringBuilder", "getValue", "()[B"⟩ : MethodName)) hown (mvT hZ (hw _ (List.mem_of_getElem? (i := 135) rfl))) (mvT hZ (hw _ (List.mem_of_getElem? (i := 136) rfl))) (notFace_of_selects (args := #[]) (mvT hZ (hw _ (List.mem_of_getElem? (i := 138) rfl)))) (mvT hZ (hw _ (List.mem_of_getElem? (i := 138) rfl))) (mvT hZ (hw _ (List.mem_of_getElem? (i := 137) rfl))) (by decide) (backOf (W := 0) (r23 l Z a0 hw [] a2 tb h0 n0 Z0 F_v2) hZ (hw _ (List.mem_of_getElem? (i := 139) rfl)) (hw _ (List.mem_of_getElem? (i := 44) rfl)) (by decide) (by decide)) q4a q4c (g := (mkF m 5 #[.val (.ref a1), .val (.ref a2), .val .null, .unset, .unset] [(.ref a2)])) rfl (by rw [hml]; rfl) (Steps.refl _) (argsL := []) (rest := []) (lenOf pd_22_19 rfl) rfl (by show 2 * 0 + _ ≤ _; exact Nat.le_of_eq rfl) (hb hby d22_5) (fun _ _ => ⟨rfl, e3, (by decide : 0 + 0 ≤ _), (by decide : 0 + 0 ≤ _)⟩)
  dsimp only [Pt.U, Pt.locs, Pt.cells, Pt.slots] at X4 l4 y4 z4 st4 hQ4
  subst l4 y4 z4
  obtain ⟨rfl, N4q, e4⟩ := hQ4
  have N4 := Fr.app N0 N4q
  obtain ⟨cq5, kq5, q5a, q5b, q5c⟩ := isOf hZ e4 E_a2
  obtain ⟨_, _, ⟨T5, L5, k5, n5⟩, -, X5, ⟨Lc5, hQ5, l5, y5, z5⟩, st5⟩ := X4.virtualBack hx (y := (⟨"java/lang/AbstractStringBuilder", "length", "()I"⟩ : MethodName)) (z := (⟨"java/lang/StringBuilder", "length", "()I"⟩ : MethodName)) hown (mvT hZ (hw _ (List.mem_of_getElem? (i := 140) rfl))) (mvT hZ (hw _ (List.mem_of_getElem? (i := 141) rfl))) (own_nf (notFace_of_selects (args := #[]) (mvT hZ (hw _ (List.mem_of_getElem? (i := 80) rfl)))) (mvT hZ (hw _ (List.mem_of_getElem? (i := 78) rfl)) : (Cond.instanceMethod _).before #[] s = true) rfl) (mvT hZ (hw _ (List.mem_of_getElem? (i := 143) rfl))) (mvT hZ (hw _ (List.mem_of_getElem? (i := 144) rfl))) (by decide) (backOf (W := 0) (r24 l Z a0 hw [] a2 (20 : Int32) h0 n0 Z0 E_a2 F_n2) hZ (hw _ (List.mem_of_getElem? (i := 145) rfl)) (hw _ (List.mem_of_getElem? (i := 36) rfl)) (by decide) (by decide)) q5a q5c (g := (mkF m 10 #[.val (.ref a1), .val (.ref a2), .val .null, .val (.ref tb), .unset] [(.ref a2)])) rfl (by rw [hml]; rfl) (Steps.refl _) (argsL := []) (rest := []) (lenOf pd_22_7 rfl) rfl (by show 2 * 0 + _ ≤ _; exact Nat.le_of_eq rfl) (hb hby d22_10) (fun _ _ => ⟨rfl, e4, (by decide : 0 + 0 ≤ _), (by decide : 0 + 0 ≤ _)⟩)
  dsimp only [Pt.U, Pt.locs, Pt.cells, Pt.slots] at X5 l5 y5 z5 st5 hQ5
  subst l5 y5 z5
  obtain ⟨rfl, N5q, e5⟩ := hQ5
  have N5 := Fr.app N4 N5q
  obtain ⟨cq6, kq6, q6a, q6b, q6c⟩ := isOf hZ e5 E_a2
  obtain ⟨_, _, ⟨T6, L6, k6, n6⟩, -, X6, ⟨Lc6, hQ6, l6, y6, z6⟩, st6⟩ := X5.virtualBack hx (y := (⟨"java/lang/AbstractStringBuilder", "isLatin1", "()Z"⟩ : MethodName)) (z := (⟨"java/lang/AbstractStringBuilder", "isLatin1", "()Z"⟩ : MethodName)) hown (mvT hZ (hw _ (List.mem_of_getElem? (i := 148) rfl))) (mvT hZ (hw _ (List.mem_of_getElem? (i := 149) rfl))) (notFace_of_selects (args := #[]) (mvT hZ (hw _ (List.mem_of_getElem? (i := 151) rfl)))) (mvT hZ (hw _ (List.mem_of_getElem? (i := 151) rfl))) (mvT hZ (hw _ (List.mem_of_getElem? (i := 150) rfl))) (by decide) (backOf (W := 0) (r26 l Z a0 hw [] a2 zc (0 : Int32) h0 n0 Z0 SC F_c2 hz rfl) hZ (hw _ (List.mem_of_getElem? (i := 152) rfl)) (hw _ (List.mem_of_getElem? (i := 44) rfl)) (by decide) (by decide)) q6a q6c (g := (mkF m 16 #[.val (.ref a1), .val (.ref a2), .val .null, .val (.ref tb), .val (.int (20 : Int32))] [(.ref a2)])) rfl (by rw [hml]; rfl) (Steps.refl _) (argsL := []) (rest := []) (lenOf pd_22_20 rfl) rfl (by show 2 * 0 + _ ≤ _; exact Nat.le_of_eq rfl) (hb hby d22_16) (fun _ _ => ⟨rfl, e5, (by decide : 0 + 0 ≤ _), (by decide : 0 + 0 ≤ _)⟩)
  dsimp only [Pt.U, Pt.locs, Pt.cells, Pt.slots] at X6 l6 y6 z6 st6 hQ6
  subst l6 y6 z6
  obtain ⟨rfl, N6q, e6⟩ := hQ6
  have N6 := Fr.app N5 N6q
  obtain ⟨T7, h7, X7, e7, W7, st7⟩ := putFN X6 hx hZ hown (hw _ (List.mem_of_getElem? (i := 74) rfl)) Via.refl e6 F_coder_a1 E_a1 (Or.inr ⟨(hw _ (List.mem_of_getElem? (i := 28) rfl)), rfl, hnm⟩) (hw _ (List.mem_of_getElem? (i := 25) rfl)) (ty := .byte) (v' := (.int (0 : Int32))) (by decide) rfl (by decide) (g := (mkF m 24 #[.val (.ref a1), .val (.ref a2), .val .null, .val (.ref tb), .val (.int (20 : Int32))] [(.int (0 : Int32)), (.ref a1)])) rfl rfl (hb hby d22_24)
  have Fw7 := F_coder_a1.same W7
  have K7 : Keep h0 h7 [a1] := (Keep.refl h0 [a1]).wr W7 (Or.inl (List.mem_of_getElem? (i := 0) rfl))
  have N7 := Fr.snoc X7 N6 g_a1
  obtain ⟨_, _, ⟨T8, L8, k8, n8⟩, -, X8, ⟨Lc8, hQ8, l8, y8, z8⟩, st8⟩ := Jvm.LawKit.callS X7 hx (y := (⟨"java/util/Arrays", "copyOfRange", "([BII)[B"⟩ : MethodName)) hown (mvT hZ (hw _ (List.mem_of_getElem? (i := 153) rfl))) (mvT hZ (hw _ (List.mem_of_getElem? (i := 154) rfl))) (mvT hZ (hw _ (List.mem_of_getElem? (i := 117) rfl))) (mvT hZ (hw _ (List.mem_of_getElem? (i := 155) rfl))) (by decide) (backOf (W := 1) (r27_20 l Z a0 hw [] tb kd vd h7 n0 (Nat.le_trans Z0 K7.1) (B.other W7 (fun q => Exa.neArv E_a1 B (hw _ (List.mem_of_getElem? (i := 25) rfl)) q.symm))) hZ (hw _ (List.mem_of_getElem? (i := 155) rfl)) (hw _ (List.mem_of_getElem? (i := 117) rfl)) (by decide) (by decide)) (g := (mkF m 32 #[.val (.ref a1), .val (.ref a2), .val .null, .val (.ref tb), .val (.int (20 : Int32))] [(.int (20 : Int32)), (.int (0 : Int32)), (.ref tb), (.ref a1)])) rfl (by rw [hml]; rfl) (argsL := [(.ref tb), (.int (0 : Int32)), (.int (20 : Int32))]) (rest := [(.ref a1)]) (lenOf pd_22_21 rfl) rfl (by show 2 * 0 + _ ≤ _; exact Nat.le_of_eq rfl) (hb hby d22_32) (fun _ _ => ⟨rfl, e7, (by decide : 0 + 1 ≤ _), (by decide : 0 + 20 ≤ _)⟩)
  dsimp only [Pt.U, Pt.locs, Pt.cells, Pt.slots] at X8 l8 y8 z8 st8 hQ8
  subst l8 y8 z8
  obtain ⟨rfl, N8q, K8, k8x, vs8, V8, hv8⟩ := hQ8
  have N8 := Fr.app N7 N8q
  obtain ⟨T9, h9, X9, e9, W9, st9⟩ := putF X8 hx hZ hown (host := "") (Or.inl (hw _ (List.mem_of_getElem? (i := 67) rfl))) Via.refl rfl ((F_value_a1.other W7 (Or.inr (slot_ne (Or.inr (hw _ (List.mem_of_getElem? (i := 27) rfl))) (Or.inr (hw _ (List.mem_of_getElem? (i := 28) rfl))) (by decide) (t := (.array .byte)) (t' := .byte) (by decide) (by decide)))).keep K8 nin0) ((E_a1.wr W7).keep K8) (Or.inr ⟨(hw _ (List.mem_of_getElem? (i := 27) rfl)), rfl, hnm⟩) (hw _ (List.mem_of_getElem? (i := 25) rfl)) (ty := (.array .byte)) (by decide) rfl rfl (g := (mkF m 35 #[.val (.ref a1), .val (.ref a2), .val .null, .val (.ref tb), .val (.int (20 : Int32))] [(.ref h7.size), (.ref a1)])) rfl rfl (hb hby d22_35)
  have Fw9 := ((F_value_a1.other W7 (Or.inr (slot_ne (Or.inr (hw _ (List.mem_of_getElem? (i := 27) rfl))) (Or.inr (hw _ (List.mem_of_getElem? (i := 28) rfl))) (by decide) (t := (.array .byte)) (t' := .byte) (by decide) (by decide)))).keep K8 nin0).same W9
  have K9 : Keep h0 h9 [a1] := (K7.trans K8 all0).wr W9 (Or.inl (List.mem_of_getElem? (i := 0) rfl))
  have N9 := Fr.snoc X9 N8 g_a1
  obtain ⟨fs, hr, hrun, hended, hW, hsame⟩ := X9.leave (v := none) (fun _ => rfl)
  refine ⟨_, _, pre0 _ ?_, hrun, hended, _, _, rfl, ?_, ⟨_, rfl⟩, hW, hsame.mono (by decide) (by decide)⟩
  · show Steps p.tables e below (s₁.setTop (mkF m 0 #[.val (.ref a1), .val (.ref a2), .val .null, .unset, .unset] [])) _
    refine XS.aloadN X0.here hx rfl (hb hby d22_0) rfl rfl ?_
    show Steps p.tables e below (s₁.setTop (mkF m 1 #[.val (.ref a1), .val (.ref a2), .val .null, .unset, .unset] [(.ref a1)])) _
    refine st3 _ ?_
    show Steps p.tables e below (T3.setTop (mkF m 4 #[.val (.ref a1), .val (.ref a2), .val .null, .unset, .unset] [])) _
    refine XS.aloadN X3.here hx rfl (hb hby d22_4) rfl rfl ?_
    show Steps p.tables e below (T3.setTop (mkF m 5 #[.val (.ref a1), .val (.ref a2), .val .null, .unset, .unset] [(.ref a2)])) _
    refine st4.trans ?_
    show Steps p.tables e below (T4.setTop (mkF m 8 #[.val (.ref a1), .val (.ref a2), .val .null, .unset, .unset] [(.ref tb)])) _
    refine XS.astoreN X4.here hx rfl (hb hby d22_8) rfl rfl (l' := #[.val (.ref a1), .val (.ref a2), .val .null, .val (.ref tb), .unset]) rfl ?_
    show Steps p.tables e below (T4.setTop (mkF m 9 #[.val (.ref a1), .val (.ref a2), .val .null, .val (.ref tb), .unset] [])) _
    refine XS.aloadN X4.here hx rfl (hb hby d22_9) rfl rfl ?_
    show Steps p.tables e below (T4.setTop (mkF m 10 #[.val (.ref a1), .val (.ref a2), .val .null, .val (.ref tb), .unset] [(.ref a2)])) _
    refine st5.trans ?_
    show Steps p.tables e below (T5.setTop (mkF m 13 #[.val (.ref a1), .val (.ref a2), .val .null, .val (.ref tb), .unset] [(.int (20 : Int32))])) _
    refine XS.istore X5.here hx rfl (hb hby d22_13) rfl (l' := #[.val (.ref a1), .val (.ref a2), .val .null, .val (.ref tb), .val (.int (20 : Int32))]) rfl ?_
    show Steps p.tables e below (T5.setTop (mkF m 15 #[.val (.ref a1), .val (.ref a2), .val .null, .val (.ref tb), .val (.int (20 : Int32))] [])) _
    refine XS.aloadN X5.here hx rfl (hb hby d22_15) rfl rfl ?_
    show Steps p.tables e below (T5.setTop (mkF m 16 #[.val (.ref a1), .val (.ref a2), .val .null, .val (.ref tb), .val (.int (20 : Int32))] [(.ref a2)])) _
    refine st6.trans ?_
    show Steps p.tables e below (T6.setTop (mkF m 19 #[.val (.ref a1), .val (.ref a2), .val .null, .val (.ref tb), .val (.int (20 : Int32))] [(.int (1 : Int32))])) _
    refine XS.ifNo X6.here hx rfl (hb hby d22_19) rfl ((if0 _ _).trans (feq (by decide : ¬ ((1 : Int32) = (0 : Int32)))).1) ?_
    show Steps p.tables e below (T6.setTop (mkF m 22 #[.val (.ref a1), .val (.ref a2), .val .null, .val (.ref tb), .val (.int (20 : Int32))] [])) _
    refine XS.aloadN X6.here hx rfl (hb hby d22_22) rfl rfl ?_
    show Steps p.tables e below (T6.setTop (mkF m 23 #[.val (.ref a1), .val (.ref a2), .val .null, .val (.ref tb), .val (.int (20 : Int32))] [(.ref a1)])) _
    refine XS.iconst X6.here hx rfl (hb hby d22_23) ?_
    show Steps p.tables e below (T6.setTop (mkF m 24 #[.val (.ref a1), .val (.ref a2), .val .null, .val (.ref tb), .val (.int (20 : Int32))] [(.int (0 : Int32)), (.ref a1)])) _
    refine st7 _ ?_
    show Steps p.tables e below (T7.setTop (mkF m 27 #[.val (.ref a1), .val (.ref a2), .val .null, .val (.ref tb), .val (.int (20 : Int32))] [])) _
    refine XS.aloadN X7.here hx rfl (hb hby d22_27) rfl rfl ?_
    show Steps p.tables e below (T7.setTop (mkF m 28 #[.val (.ref a1), .val (.ref a2), .val .null, .val (.ref tb), .val (.int (20 : Int32))] [(.ref a1)])) _
    refine XS.aloadN X7.here hx rfl (hb hby d22_28) rfl rfl ?_
    show Steps p.tables e below (T7.setTop (mkF m 29 #[.val (.ref a1), .val (.ref a2), .val .null, .val (.ref tb), .val (.int (20 : Int32))] [(.ref tb), (.ref a1)])) _
    refine XS.iconst X7.here hx rfl (hb hby d22_29) ?_
    show Steps p.tables e below (T7.setTop (mkF m 30 #[.val (.ref a1), .val (.ref a2), .val .null, .val (.ref tb), .val (.int (20 : Int32))] [(.int (0 : Int32)), (.ref tb), (.ref a1)])) _
    refine XS.iload X7.here hx rfl (hb hby d22_30) rfl ?_
    show Steps p.tables e below (T7.setTop (mkF m 32 #[.val (.ref a1), .val (.ref a2), .val .null, .val (.ref tb), .val (.int (20 : Int32))] [(.int (20 : Int32)), (.int (0 : Int32)), (.ref tb), (.ref a1)])) _
    refine st8 _ ?_
    show Steps p.tables e below (T8.setTop (mkF m 35 #[.val (.ref a1), .val (.ref a2), .val .null, .val (.ref tb), .val (.int (20 : Int32))] [(.ref h7.size), (.ref a1)])) _
    refine st9 _ ?_
    show Steps p.tables e below (T9.setTop (mkF m 38 #[.val (.ref a1), .val (.ref a2), .val .null, .val (.ref tb), .val (.int (20 : Int32))] [])) _
    refine XS.goto X9.here hx rfl (pc0 := 38) (pc' := 97) rfl (hb hby d22_38) (by decide) (by decide) ?_
    show Steps p.tables e below (T9.setTop (mkF m 97 #[.val (.ref a1), .val (.ref a2), .val .null, .val (.ref tb), .val (.int (20 : Int32))] [])) _
    exact X9.returnOut hx Bd.returns (hb hby d22_97) hr
  · show Q22 Z a1 20 h0 n0 _ T9.heap _
    rw [e9]
    have hne : h7.size ≠ a1 := Nat.ne_of_gt (Nat.lt_of_lt_of_le E_a1.lt K7.1)
    exact ⟨rfl, N9, K9, ((E_a1.wr W7).keep K8).wr W9, (Fw7.keep K8 nin0).other W9 (Or.inr (slot_ne (Or.inr (hw _ (List.mem_of_getElem? (i := 28) rfl))) (Or.inr (hw _ (List.mem_of_getElem? (i := 27) rfl))) (by decide) (t := .byte) (t' := (.array .byte)) (by decide) (by decide))), h7.size, k8x, vs8, Fw9, V8.other W9 hne⟩
theorem d21_0 : decode jdk_42_method_53_code 0 = .ok (.aload_n 0, 1) := by decide +kernel
theorem d21_1 : decode jdk_42_method_53_code 1 = .ok (.aload_n 1, 1) := by decide +kernel
theorem d21_2 : decode jdk_42_method_53_code 2 = .ok (.aconst_null, 1) := by decide +kernel
theorem d21_3 : decode jdk_42_method_53_code 3 = .ok (.invokespecial 489, 3) := by decide +kernel
theorem d21_6 : decode jdk_42_method_53_code 6 = .ok (.return_, 1) := by decide +kernel
theorem pn_21 : plainName "java/lang/String" = true := by first | (simp [plainName, overriddenIn]; done) | decide +kernel
theorem pd_21_18 : parseMethodDescriptor "(Ljava/lang/AbstractStringBuilder;Ljava/lang/Void;)V" = some ⟨[(.object "java/lang/AbstractStringBuilder"), (.object "java/lang/Void")], none⟩ := by decide +kernel
theorem ef_21 (m : MethodId) (x0 : Addr) (x1 : Addr) : entryFrame m #[(.ref x0), (.ref x1)] 2 = mkF m 0 #[.val (.ref x0), .val (.ref x1)] [] := by first | (simp [entryFrame, mkF, argsToLocals, Value.category]; done) | rfl
set_option maxRecDepth 65536 in
set_option maxHeartbeats 40000000 in
theorem r21_20 (l : Launch) (Z : State) (a0 : Array Value) (hw : ∀ d ∈ tables_1, d.before a0 Z = true) (ws : List Jvm.Cond) (a1 : Addr) (a2 : Addr) (tb : Addr) (u_coder_a1 : Value) (u_value_a1 : Value) (h0 : Heap) (n0 : Nat) (Z0 : n0 ≤ h0.size) (SB : own_SBv Z h0 a2 20 34 tb) (E_a1 : Exa Z h0 a1 "java/lang/String") (F_coder_a1 : Fld Z h0 a1 "java/lang/String" "coder" "B" u_coder_a1) (g_a1 : n0 ≤ a1) (F_value_a1 : Fld Z h0 a1 "java/lang/String" "value" "[B" u_value_a1) (CS : own_CS Z h0) :
    MetFree l (⟨"java/lang/String", "<init>", "(Ljava/lang/StringBuilder;)V"⟩ : MethodName) (head1 (Jvm.Cond.code (⟨"java/lang/String", "<init>", "(Ljava/lang/StringBuilder;)V"⟩ : MethodName) jdk_42_method_53_code 2 none :: ws) ({ frames := 4, cells := 1, slots := 20, locals := 66 } : Room)) (fun a U => a = #[(.ref a1), (.ref a2)] ∧ Z.Warmed39 U.vm ∧ U.heap = h0) (fun _ _ _ _ _ => True) (fun _ U o U' => ∃ v L, o = .returned v ∧ Q22 Z a1 20 h0 n0 v U'.heap L ∧ FrameEnd U o U' L ({ frames := 4, cells := 1, slots := 20, locals := 66 } : Room).cells ({ frames := 4, cells := 1, slots := 20, locals := 66 } : Room).slots) := by
  refine MetFree.of_bodySF (plainFor_of_name pn_21) hisR ?_
  intro p e s m args below meth c s₁ Bd hml0 hP hK
  obtain ⟨rfl, hZ, hh⟩ := hP
  have hx := Bd.exec
  have hby := Bd.bytes
  have hml : c.maxLocals = 2 := hml0
  have hown : s.vm.findClass "java/lang/String" = some m.cls := findClass_of_methodNamed Bd.named
  have hnm := (name_of_methodNamed Bd.named Bd.method).1
  have X0 : Stand p l e ({ frames := 4, cells := 1, slots := 20, locals := 66 } : Room) s m #[(.ref a1), (.ref a2)] below meth c s₁ [] 0 0 := Stand.of_body Bd
  have e0 : s₁.heap = h0 := by rw [← hh, Bd.state]; rfl
  have N0 := Fr.nil n0
  have pre0 : ∀ t, Steps p.tables e below (s₁.setTop (mkF m 0 #[.val (.ref a1), .val (.ref a2)] [])) t → Steps p.tables e below (s₁.setTop (entryFrame m #[(.ref a1), (.ref a2)] 2)) t := fun t k => castTop (ef_21 m a1 a2) k
  obtain ⟨_, _, ⟨T3, L3, k3, n3⟩, -, X3, ⟨Lc3, hQ3, l3, y3, z3⟩, st3⟩ := X0.specialBack hx (y := (⟨"java/lang/String", "<init>", "(Ljava/lang/AbstractStringBuilder;Ljava/lang/Void;)V"⟩ : MethodName)) rfl hown (mvT hZ (hw _ (List.mem_of_getElem? (i := 131) rfl))) (mvT hZ (hw _ (List.mem_of_getElem? (i := 132) rfl))) (mvT hZ (hw _ (List.mem_of_getElem? (i := 133) rfl))) (by decide) (backOf (W := 0) (r22_20 l Z a0 hw [] a1 a2 tb u_coder_a1 u_value_a1 h0 n0 Z0 SB E_a1 F_coder_a1 g_a1 F_value_a1 CS) hZ (hw _ (List.mem_of_getElem? (i := 133) rfl)) (hw _ (List.mem_of_getElem? (i := 24) rfl)) (by decide) (by decide)) (g := (mkF m 3 #[.val (.ref a1), .val (.ref a2)] [.null, (.ref a2), (.ref a1)])) rfl (by rw [hml]; rfl) (Steps.refl _) (a := a1) (argsL := [(.ref a2), .null]) (rest := []) (lenOf pd_21_18 rfl) rfl (by show 2 * 0 + _ ≤ _; exact Nat.le_of_eq rfl) (hb hby d21_3) (fun _ _ => ⟨rfl, e0, (by decide : 0 + 1 ≤ _), (by decide : 0 + 20 ≤ _)⟩)
  dsimp only [Pt.U, Pt.locs, Pt.cells, Pt.slots] at X3 l3 y3 z3 st3 hQ3
  subst l3 y3 z3
  obtain ⟨rfl, N3q, Qq⟩ := hQ3
  have N3 := Fr.app N0 N3q
  obtain ⟨fs, hr, hrun, hended, hW, hsame⟩ := X3.leave (v := none) (fun _ => rfl)
  refine ⟨_, _, pre0 _ ?_, hrun, hended, _, _, rfl, ?_, ⟨_, rfl⟩, hW, hsame.mono (by decide) (by decide)⟩
  · show Steps p.tables e below (s₁.setTop (mkF m 0 #[.val (.ref a1), .val (.ref a2)] [])) _
    refine XS.aloadN X0.here hx rfl (hb hby d21_0) rfl rfl ?_
    show Steps p.tables e below (s₁.setTop (mkF m 1 #[.val (.ref a1), .val (.ref a2)] [(.ref a1)])) _
    refine XS.aloadN X0.here hx rfl (hb hby d21_1) rfl rfl ?_
    show Steps p.tables e below (s₁.setTop (mkF m 2 #[.val (.ref a1), .val (.ref a2)] [(.ref a2), (.ref a1)])) _
    refine XS.aconstNull X0.here hx rfl (hb hby d21_2) ?_
    show Steps p.tables e below (s₁.setTop (mkF m 3 #[.val (.ref a1), .val (.ref a2)] [.null, (.ref a2), (.ref a1)])) _
    refine st3.trans ?_
    show Steps p.tables e below (T3.setTop (mkF m 6 #[.val (.ref a1), .val (.ref a2)] [])) _
    exact X3.returnOut hx Bd.returns (hb hby d21_6) hr
  · show Q22 Z a1 20 h0 n0 _ T3.heap _
    exact ⟨rfl, N3, Qq⟩
theorem d20_0 : decode jdk_67_method_42_code 0 = .ok (.new 18, 3) := by decide +kernel
theorem d20_3 : decode jdk_67_method_42_code 3 = .ok (.dup, 1) := by decide +kernel
theorem d20_4 : decode jdk_67_method_42_code 4 = .ok (.aload_n 0, 1) := by decide +kernel
theorem d20_5 : decode jdk_67_method_42_code 5 = .ok (.invokespecial 137, 3) := by decide +kernel
theorem d20_8 : decode jdk_67_method_42_code 8 = .ok (.areturn, 1) := by decide +kernel
theorem pn_20 : plainName "java/lang/StringBuilder" = true := by first | (simp [plainName, overriddenIn]; done) | decide +kernel
theorem pd_20_17 : parseMethodDescriptor "(Ljava/lang/StringBuilder;)V" = some ⟨[(.object "java/lang/StringBuilder")], none⟩ := by decide +kernel
theorem ef_20 (m : MethodId) (x0 : Addr) : entryFrame m #[(.ref x0)] 1 = mkF m 0 #[.val (.ref x0)] [] := by first | (simp [entryFrame, mkF, argsToLocals, Value.category]; done) | rfl
set_option maxRecDepth 65536 in
set_option maxHeartbeats 40000000 in
theorem r20_20 (l : Launch) (Z : State) (a0 : Array Value) (hw : ∀ d ∈ tables_1, d.before a0 Z = true) (ws : List Jvm.Cond) (a1 : Addr) (tb : Addr) (h0 : Heap) (n0 : Nat) (Z0 : n0 ≤ h0.size) (SB : own_SBv Z h0 a1 20 34 tb) (CS : own_CS Z h0) :
    MetFree l (⟨"java/lang/StringBuilder", "toString", "()Ljava/lang/String;"⟩ : MethodName) (head1 (Jvm.Cond.code (⟨"java/lang/StringBuilder", "toString", "()Ljava/lang/String;"⟩ : MethodName) jdk_67_method_42_code 1 (some (.object "java/lang/String")) :: ws) ({ frames := 5, cells := 2, slots := 24, locals := 80 } : Room)) (fun a U => a = #[(.ref a1)] ∧ Z.Warmed39 U.vm ∧ U.heap = h0) (fun _ _ _ _ _ => True) (fun _ U o U' => ∃ v L, o = .returned v ∧ Q20 Z 20 h0 n0 v U'.heap L ∧ FrameEnd U o U' L ({ frames := 5, cells := 2, slots := 24, locals := 80 } : Room).cells ({ frames := 5, cells := 2, slots := 24, locals := 80 } : Room).slots) := by
  refine MetFree.of_bodySF (plainFor_of_name pn_20) hisR ?_
  intro p e s m args below meth c s₁ Bd hml0 hP hK
  obtain ⟨rfl, hZ, hh⟩ := hP
  have hx := Bd.exec
  have hby := Bd.bytes
  have hml : c.maxLocals = 1 := hml0
  have hown : s.vm.findClass "java/lang/StringBuilder" = some m.cls := findClass_of_methodNamed Bd.named
  have hnm := (name_of_methodNamed Bd.named Bd.method).1
  have X0 : Stand p l e ({ frames := 5, cells := 2, slots := 24, locals := 80 } : Room) s m #[(.ref a1)] below meth c s₁ [] 0 0 := Stand.of_body Bd
  have e0 : s₁.heap = h0 := by rw [← hh, Bd.state]; rfl
  have N0 := Fr.nil n0
  have pre0 : ∀ t, Steps p.tables e below (s₁.setTop (mkF m 0 #[.val (.ref a1)] [])) t → Steps p.tables e below (s₁.setTop (entryFrame m #[(.ref a1)] 1)) t := fun t k => castTop (ef_20 m a1) k
  obtain ⟨T2, h2, X2, e2, E2, A2, D2, -, st2⟩ := newO X0 hx hZ hown (hw _ (List.mem_of_getElem? (i := 126) rfl)) (hw _ (List.mem_of_getElem? (i := 25) rfl)) (hw _ (List.mem_of_getElem? (i := 24) rfl)) e0 (g := (mkF m 0 #[.val (.ref a1)] [])) rfl (hb hby d20_0) (by decide) (by decide)
  obtain ⟨b2, g2⟩ : ∃ z, z = h0.size := ⟨_, rfl⟩
  rw [← g2] at A2 D2 st2
  have F_value_b2 : Fld Z h2 b2 "java/lang/String" "value" "[B" .null := D2 (Or.inr (hw _ (List.mem_of_getElem? (i := 27) rfl))) (ty := (.array .byte)) (by decide)
  have F_coder_b2 : Fld Z h2 b2 "java/lang/String" "coder" "B" (.int (0 : Int32)) := D2 (Or.inr (hw _ (List.mem_of_getElem? (i := 28) rfl))) (ty := .byte) (by decide)
  have E_b2 := A2
  have g_b2 : n0 ≤ b2 := Nat.le_trans Z0 (Nat.le_of_eq g2.symm)
  have sz_b2 : h0.size ≤ b2 := (Nat.le_trans (Keep.refl h0 []).1 (Nat.le_of_eq g2.symm))
  have K2 : Keep h0 h2 [] := (Keep.refl h0 []).ext E2
  obtain ⟨_, _, ⟨T3, L3, k3, n3⟩, -, X3, ⟨Lc3, hQ3, l3, y3, z3⟩, st3⟩ := X2.specialBack hx (y := (⟨"java/lang/String", "<init>", "(Ljava/lang/StringBuilder;)V"⟩ : MethodName)) rfl hown (mvT hZ (hw _ (List.mem_of_getElem? (i := 127) rfl))) (mvT hZ (hw _ (List.mem_of_getElem? (i := 128) rfl))) (mvT hZ (hw _ (List.mem_of_getElem? (i := 130) rfl))) (by decide) (backOf (W := 1) (r21_20 l Z a0 hw [] b2 a1 tb _ _ h2 n0 (Nat.le_trans Z0 E2.1) (SB.keep0 K2) E_b2 F_coder_b2 g_b2 F_value_b2 (CS.ext E2)) hZ (hw _ (List.mem_of_getElem? (i := 130) rfl)) (hw _ (List.mem_of_getElem? (i := 24) rfl)) (by decide) (by decide)) (g := (mkF m 5 #[.val (.ref a1)] [(.ref a1), (.ref b2), (.ref b2)])) rfl (by rw [hml]; rfl) (Steps.refl _) (a := b2) (argsL := [(.ref a1)]) (rest := [(.ref b2)]) (lenOf pd_20_17 rfl) rfl (by show 2 * 0 + _ ≤ _; exact Nat.le_of_eq rfl) (hb hby d20_5) (fun _ _ => ⟨rfl, e2, (by decide : 1 + 1 ≤ _), (by decide : 4 + 20 ≤ _)⟩)
  dsimp only [Pt.U, Pt.locs, Pt.cells, Pt.slots] at X3 l3 y3 z3 st3 hQ3
  subst l3 y3 z3
  obtain ⟨rfl, N3q, K3, S3⟩ := hQ3
  have N3 := Fr.app N0 N3q
  obtain ⟨fs, hr, hrun, hended, hW, hsame⟩ := X3.leave (v := some (.ref b2)) (fun h => by rw [Bd.returns] at h; cases h)
  refine ⟨_, _, pre0 _ ?_, hrun, hended, _, _, rfl, ?_, ⟨_, rfl⟩, hW, hsame.mono (by decide) (by decide)⟩
  · show Steps p.tables e below (s₁.setTop (mkF m 0 #[.val (.ref a1)] [])) _
    refine st2 _ ?_
    show Steps p.tables e below (T2.setTop (mkF m 3 #[.val (.ref a1)] [(.ref b2)])) _
    refine XS.dup X2.here hx rfl (hb hby d20_3) rfl rfl ?_
    show Steps p.tables e below (T2.setTop (mkF m 4 #[.val (.ref a1)] [(.ref b2), (.ref b2)])) _
    refine XS.aloadN X2.here hx rfl (hb hby d20_4) rfl rfl ?_
    show Steps p.tables e below (T2.setTop (mkF m 5 #[.val (.ref a1)] [(.ref a1), (.ref b2), (.ref b2)])) _
    refine st3.trans ?_
    show Steps p.tables e below (T3.setTop (mkF m 8 #[.val (.ref a1)] [(.ref b2)])) _
    jvm_step X3.here [X3.here.top, hx, (hb hby d20_8), X3.method', Bd.returns, Value.isRef, FieldType.isReference]
    first | (intro acts; rw [hr _ acts rfl rfl rfl]) | rw [hr _ _ rfl rfl rfl]
    exact Steps.refl _
  · show Q20 Z 20 h0 n0 _ T3.heap _
    subst g2
    exact ⟨rfl, N3, K2.trans K3 (allS (Or.inr sz_b2) all0), S3⟩
set_option maxRecDepth 65536 in
set_option maxHeartbeats 40000000 in
theorem r28_21 (l : Launch) (Z : State) (a0 : Array Value) (hw : ∀ d ∈ tables_1, d.before a0 Z = true) (ws : List Jvm.Cond) (a1 : Addr) (kd : ClassId) (vd : List Value) (h0 : Heap) (n0 : Nat) (Z0 : n0 ≤ h0.size) (B : Arv Z h0 a1 kd .byte (34 : Int32) vd (.int 0)) :
    MetFree l (⟨"java/util/Arrays", "copyOfRangeByte", "([BII)[B"⟩ : MethodName) (head1 (Jvm.Cond.code (⟨"java/util/Arrays", "copyOfRangeByte", "([BII)[B"⟩ : MethodName) jdk_65_method_133_code 5 (some (.array .byte)) :: ws) ({ frames := 1, cells := 1, slots := 21, locals := 18 } : Room)) (fun a U => a = #[(.ref a1), (.int (0 : Int32)), (.int (21 : Int32))] ∧ Z.Warmed39 U.vm ∧ U.heap = h0) (fun _ _ _ _ _ => True) (fun _ U o U' => ∃ v L, o = .returned v ∧ Q19 Z 21 h0 n0 v U'.heap L ∧ FrameEnd U o U' L ({ frames := 1, cells := 1, slots := 21, locals := 18 } : Room).cells ({ frames := 1, cells := 1, slots := 21, locals := 18 } : Room).slots) := by
  refine MetFree.of_bodySF (plainFor_of_name pn_28) hisR ?_
  intro p e s m args below meth c s₁ Bd hml0 hP hK
  obtain ⟨rfl, hZ, hh⟩ := hP
  have hx := Bd.exec
  obtain ⟨cl_a1, Ar_a1, qb, S_a1, N_a1, Hb, Gb⟩ := id B
  have hby := Bd.bytes
  have hml : c.maxLocals = 5 := hml0
  have hown : s.vm.findClass "java/util/Arrays" = some m.cls := findClass_of_methodNamed Bd.named
  have hnm := (name_of_methodNamed Bd.named Bd.method).1
  have X0 : Stand p l e ({ frames := 1, cells := 1, slots := 21, locals := 18 } : Room) s m #[(.ref a1), (.int (0 : Int32)), (.int (21 : Int32))] below meth c s₁ [] 0 0 := Stand.of_body Bd
  have e0 : s₁.heap = h0 := by rw [← hh, Bd.state]; rfl
  have N0 := Fr.nil n0
  have pre0 : ∀ t, Steps p.tables e below (s₁.setTop (mkF m 0 #[.val (.ref a1), .val (.int (0 : Int32)), .val (.int (21 : Int32)), .unset, .unset] [])) t → Steps p.tables e below (s₁.setTop (entryFrame m #[(.ref a1), (.int (0 : Int32)), (.int (21 : Int32))] 5)) t := fun t k => castTop (ef_28 m a1 (0 : Int32) (21 : Int32)) k
  obtain ⟨_, _, ⟨T4, L4, k4, n4⟩, -, X4, ⟨Lc4, hQ4, l4, y4, z4⟩, st4⟩ := Jvm.LawKit.callS X0 hx (y := (⟨"java/util/Arrays", "checkLength", "(II)V"⟩ : MethodName)) hown (mvT hZ (hw _ (List.mem_of_getElem? (i := 159) rfl))) (mvT hZ (hw _ (List.mem_of_getElem? (i := 160) rfl))) (mvT hZ (hw _ (List.mem_of_getElem? (i := 117) rfl))) (mvT hZ (hw _ (List.mem_of_getElem? (i := 161) rfl))) (by decide) (backOf (W := 0) (r29 l Z a0 hw [] (0 : Int32) (21 : Int32) h0 n0 Z0 (by decide)) hZ (hw _ (List.mem_of_getElem? (i := 161) rfl)) (hw _ (List.mem_of_getElem? (i := 117) rfl)) (by decide) (by decide)) (g := (mkF m 2 #[.val (.ref a1), .val (.int (0 : Int32)), .val (.int (21 : Int32)), .unset, .unset] [(.int (21 : Int32)), (.int (0 : Int32))])) rfl (by rw [hml]; rfl) (argsL := [(.int (0 : Int32)), (.int (21 : Int32))]) (rest := []) (lenOf pd_28_22 rfl) rfl (by show 2 * 0 + _ ≤ _; exact Nat.le_of_eq rfl) (hb hby d28_2) (fun _ _ => ⟨rfl, e0, (by decide : 0 + 0 ≤ _), (by decide : 0 + 0 ≤ _)⟩)
  dsimp only [Pt.U, Pt.locs, Pt.cells, Pt.slots] at X4 l4 y4 z4 st4 hQ4
  subst l4 y4 z4
  obtain ⟨rfl, N4q, e4⟩ := hQ4
  have N4 := Fr.app N0 N4q
  obtain ⟨T5, h5, k5, X5, e5, E5, A5, st5⟩ := newP X4 hx hZ (hw _ (List.mem_of_getElem? (i := 26) rfl)) e4 (g := (mkF m 10 #[.val (.ref a1), .val (.int (0 : Int32)), .val (.int (21 : Int32)), .val (.int ((21 : Int32) - (0 : Int32))), .unset] [(.int ((21 : Int32) - (0 : Int32)))])) rfl (hb hby d28_10) rfl (by decide) (cap := 21) (by decide) (by decide) (by decide) (by decide)
  obtain ⟨b5, g5⟩ : ∃ z, z = h0.size := ⟨_, rfl⟩
  rw [← g5] at A5 st5
  have V_b5 : Arv Z h5 b5 k5 .byte ((21 : Int32) - (0 : Int32)) [(.int (0 : Int32)), (.int (0 : Int32)), (.int (0 : Int32)), (.int (0 : Int32)), (.int (0 : Int32)), (.int (0 : Int32)), (.int (0 : Int32)), (.int (0 : Int32)), (.int (0 : Int32)), (.int (0 : Int32)), (.int (0 : Int32)), (.int (0 : Int32)), (.int (0 : Int32)), (.int (0 : Int32)), (.int (0 : Int32)), (.int (0 : Int32)), (.int (0 : Int32)), (.int (0 : Int32)), (.int (0 : Int32)), (.int (0 : Int32)), (.int (0 : Int32))] (.int (0 : Int32)) := (Arv.new A5 (by decide)).pad (pad_rep [] (.int (0 : Int32)) 21)
  have g_b5 : n0 ≤ b5 := Nat.le_trans Z0 (Nat.le_of_eq g5.symm)
  have sz_b5 : h0.size ≤ b5 := (Nat.le_trans (Keep.refl h0 []).1 (Nat.le_of_eq g5.symm))
  have K5 : Keep h0 h5 [] := (Keep.refl h0 []).ext E5
  obtain ⟨_, _, ⟨T6, L6, k6, n6⟩, -, X6, ⟨Lc6, hQ6, l6, y6, z6⟩, st6⟩ := Jvm.LawKit.callS X5 hx (y := (⟨"java/lang/Math", "min", "(II)I"⟩ : MethodName)) hown (mvT hZ (hw _ (List.mem_of_getElem? (i := 119) rfl))) (mvT hZ (hw _ (List.mem_of_getElem? (i := 2) rfl))) (mvT hZ (hw _ (List.mem_of_getElem? (i := 3) rfl))) (mvT hZ (hw _ (List.mem_of_getElem? (i := 4) rfl))) (by decide) (backOf (W := 4) (r1c l Z a0 hw [] ((34 : Int32) - (0 : Int32)) ((21 : Int32) - (0 : Int32)) ((21 : Int32) - (0 : Int32)) h5 n0 (Nat.le_trans Z0 E5.1) (by decide)) hZ (hw _ (List.mem_of_getElem? (i := 4) rfl)) (hw _ (List.mem_of_getElem? (i := 3) rfl)) (by decide) (by decide)) (g := (mkF m 24 #[.val (.ref a1), .val (.int (0 : Int32)), .val (.int (21 : Int32)), .val (.int ((21 : Int32) - (0 : Int32))), .val (.ref b5)] [(.int ((21 : Int32) - (0 : Int32))), (.int ((34 : Int32) - (0 : Int32))), (.int (0 : Int32)), (.ref b5), (.int (0 : Int32)), (.ref a1)])) rfl (by rw [hml]; rfl) (argsL := [(.int ((34 : Int32) - (0 : Int32))), (.int ((21 : Int32) - (0 : Int32)))]) (rest := [(.int (0 : Int32)), (.ref b5), (.int (0 : Int32)), (.ref a1)]) (lenOf pd_28_0 rfl) rfl (by show 2 * 0 + _ ≤ _; exact Nat.le_of_eq rfl) (hb hby d28_24) (fun _ _ => ⟨rfl, e5, (by decide : 1 + 0 ≤ _), (by decide : 21 + 0 ≤ _)⟩)
  dsimp only [Pt.U, Pt.locs, Pt.cells, Pt.slots] at X6 l6 y6 z6 st6 hQ6
  subst l6 y6 z6
  obtain ⟨rfl, N6q, e6⟩ := hQ6
  have N6 := Fr.app N4 N6q
  obtain ⟨T7, h7, L7, X7, e7, N7, K7, V7, st7⟩ := cpA X6 hx hZ hown (hw _ (List.mem_of_getElem? (i := 120) rfl)) (hw _ (List.mem_of_getElem? (i := 101) rfl)) (hw _ (List.mem_of_getElem? (i := 99) rfl)) (hw _ (List.mem_of_getElem? (i := 100) rfl)) e6 (B.ext E5) V_b5 (Or.inl ⟨rfl, rfl⟩) (by decide) (by decide) (by decide) (by decide) (by decide) rfl (by decide) N6 g_b5 (g := (mkF m 27 #[.val (.ref a1), .val (.int (0 : Int32)), .val (.int (21 : Int32)), .val (.int ((21 : Int32) - (0 : Int32))), .val (.ref b5)] [(.int ((21 : Int32) - (0 : Int32))), (.int (0 : Int32)), (.ref b5), (.int (0 : Int32)), (.ref a1)])) rfl (by rw [hml]; rfl) (rest := []) rfl (hb hby d28_27) (by decide) (W := 0) (by show 2 * 0 + _ ≤ _; exact Nat.le_of_eq rfl) (by decide)
  obtain ⟨fs, hr, hrun, hended, hW, hsame⟩ := X7.leave (v := some (.ref b5)) (fun h => by rw [Bd.returns] at h; cases h)
  refine ⟨_, _, pre0 _ ?_, hrun, hended, _, _, rfl, ?_, ⟨_, rfl⟩, hW, hsame.mono (by decide) (by decide)⟩
  · show Steps p.tables e below (s₁.setTop (mkF m 0 #[.val (.ref a1), .val (.int (0 : Int32)), .val (.int (21 : Int32)), .unset, .unset] [])) _
    refine XS.iloadN X0.here hx rfl (hb hby d28_0) rfl ?_
    show Steps p.tables e below (s₁.setTop (mkF m 1 #[.val (.ref a1), .val (.int (0 : Int32)), .val (.int (21 : Int32)), .unset, .unset] [(.int (0 : Int32))])) _
    refine XS.iloadN X0.here hx rfl (hb hby d28_1) rfl ?_
    show Steps p.tables e below (s₁.setTop (mkF m 2 #[.val (.ref a1), .val (.int (0 : Int32)), .val (.int (21 : Int32)), .unset, .unset] [(.int (21 : Int32)), (.int (0 : Int32))])) _
    refine st4 _ ?_
    show Steps p.tables e below (T4.setTop (mkF m 5 #[.val (.ref a1), .val (.int (0 : Int32)), .val (.int (21 : Int32)), .unset, .unset] [])) _
    refine XS.iloadN X4.here hx rfl (hb hby d28_5) rfl ?_
    show Steps p.tables e below (T4.setTop (mkF m 6 #[.val (.ref a1), .val (.int (0 : Int32)), .val (.int (21 : Int32)), .unset, .unset] [(.int (21 : Int32))])) _
    refine XS.iloadN X4.here hx rfl (hb hby d28_6) rfl ?_
    show Steps p.tables e below (T4.setTop (mkF m 7 #[.val (.ref a1), .val (.int (0 : Int32)), .val (.int (21 : Int32)), .unset, .unset] [(.int (0 : Int32)), (.int (21 : Int32))])) _
    refine XS.isub X4.here hx rfl (hb hby d28_7) rfl ?_
    show Steps p.tables e below (T4.setTop (mkF m 8 #[.val (.ref a1), .val (.int (0 : Int32)), .val (.int (21 : Int32)), .unset, .unset] [(.int ((21 : Int32) - (0 : Int32)))])) _
    refine XS.istoreN X4.here hx rfl (hb hby d28_8) rfl (l' := #[.val (.ref a1), .val (.int (0 : Int32)), .val (.int (21 : Int32)), .val (.int ((21 : Int32) - (0 : Int32))), .unset]) rfl ?_
    show Steps p.tables e below (T4.setTop (mkF m 9 #[.val (.ref a1), .val (.int (0 : Int32)), .val (.int (21 : Int32)), .val (.int ((21 : Int32) - (0 : Int32))), .unset] [])) _
    refine XS.iloadN X4.here hx rfl (hb hby d28_9) rfl ?_
    show Steps p.tables e below (T4.setTop (mkF m 10 #[.val (.ref a1), .val (.int (0 : Int32)), .val (.int (21 : Int32)), .val (.int ((21 : Int32) - (0 : Int32))), .unset] [(.int ((21 : Int32) - (0 : Int32)))])) _
    refine st5 _ ?_
    show Steps p.tables e below (T5.setTop (mkF m 12 #[.val (.ref a1), .val (.int (0 : Int32)), .val (.int (21 : Int32)), .val (.int ((21 : Int32) - (0 : Int32))), .unset] [(.ref b5)])) _
    refine XS.astore X5.here hx rfl (hb hby d28_12) rfl rfl (l' := #[.val (.ref a1), .val (.int (0 : Int32)), .val (.int (21 : Int32)), .val (.int ((21 : Int32) - (0 : Int32))), .val (.ref b5)]) rfl ?_
    show Steps p.tables e below (T5.setTop (mkF m 14 #[.val (.ref a1), .val (.int (0 : Int32)), .val (.int (21 : Int32)), .val (.int ((21 : Int32) - (0 : Int32))), .val (.ref b5)] [])) _
    refine XS.aloadN X5.here hx rfl (hb hby d28_14) rfl rfl ?_
    show Steps p.tables e below (T5.setTop (mkF m 15 #[.val (.ref a1), .val (.int (0 : Int32)), .val (.int (21 : Int32)), .val (.int ((21 : Int32) - (0 : Int32))), .val (.ref b5)] [(.ref a1)])) _
    refine XS.iloadN X5.here hx rfl (hb hby d28_15) rfl ?_
    show Steps p.tables e below (T5.setTop (mkF m 16 #[.val (.ref a1), .val (.int (0 : Int32)), .val (.int (21 : Int32)), .val (.int ((21 : Int32) - (0 : Int32))), .val (.ref b5)] [(.int (0 : Int32)), (.ref a1)])) _
    refine XS.aload X5.here hx rfl (hb hby d28_16) rfl rfl ?_
    show Steps p.tables e below (T5.setTop (mkF m 18 #[.val (.ref a1), .val (.int (0 : Int32)), .val (.int (21 : Int32)), .val (.int ((21 : Int32) - (0 : Int32))), .val (.ref b5)] [(.ref b5), (.int (0 : Int32)), (.ref a1)])) _
    refine XS.iconst X5.here hx rfl (hb hby d28_18) ?_
    show Steps p.tables e below (T5.setTop (mkF m 19 #[.val (.ref a1), .val (.int (0 : Int32)), .val (.int (21 : Int32)), .val (.int ((21 : Int32) - (0 : Int32))), .val (.ref b5)] [(.int (0 : Int32)), (.ref b5), (.int (0 : Int32)), (.ref a1)])) _
    refine XS.aloadN X5.here hx rfl (hb hby d28_19) rfl rfl ?_
    show Steps p.tables e below (T5.setTop (mkF m 20 #[.val (.ref a1), .val (.int (0 : Int32)), .val (.int (21 : Int32)), .val (.int ((21 : Int32) - (0 : Int32))), .val (.ref b5)] [(.ref a1), (.int (0 : Int32)), (.ref b5), (.int (0 : Int32)), (.ref a1)])) _
    refine X5.arraylength hx (by rw [e5]; exact (Ar_a1.ext E5).1) (State.isArrayOf_alike hZ.alike Ar_a1.2.1) (g := (mkF m 20 #[.val (.ref a1), .val (.int (0 : Int32)), .val (.int (21 : Int32)), .val (.int ((21 : Int32) - (0 : Int32))), .val (.ref b5)] [(.ref a1), (.int (0 : Int32)), (.ref b5), (.int (0 : Int32)), (.ref a1)])) rfl rfl (hb hby d28_20) _ ?_
    rw [len_of S_a1 N_a1]
    show Steps p.tables e below (T5.setTop (mkF m 21 #[.val (.ref a1), .val (.int (0 : Int32)), .val (.int (21 : Int32)), .val (.int ((21 : Int32) - (0 : Int32))), .val (.ref b5)] [(.int (34 : Int32)), (.int (0 : Int32)), (.ref b5), (.int (0 : Int32)), (.ref a1)])) _
    refine XS.iloadN X5.here hx rfl (hb hby d28_21) rfl ?_
    show Steps p.tables e below (T5.setTop (mkF m 22 #[.val (.ref a1), .val (.int (0 : Int32)), .val (.int (21 : Int32)), .val (.int ((21 : Int32) - (0 : Int32))), .val (.ref b5)] [(.int (0 : Int32)), (.int (34 : Int32)), (.int (0 : Int32)), (.ref b5), (.int (0 : Int32)), (.ref a1)])) _
    refine XS.isub X5.here hx rfl (hb hby d28_22) rfl ?_
    show Steps p.tables e below (T5.setTop (mkF m 23 #[.val (.ref a1), .val (.int (0 : Int32)), .val (.int (21 : Int32)), .val (.int ((21 : Int32) - (0 : Int32))), .val (.ref b5)] [(.int ((34 : Int32) - (0 : Int32))), (.int (0 : Int32)), (.ref b5), (.int (0 : Int32)), (.ref a1)])) _
    refine XS.iloadN X5.here hx rfl (hb hby d28_23) rfl ?_
    show Steps p.tables e below (T5.setTop (mkF m 24 #[.val (.ref a1), .val (.int (0 : Int32)), .val (.int (21 : Int32)), .val (.int ((21 : Int32) - (0 : Int32))), .val (.ref b5)] [(.int ((21 : Int32) - (0 : Int32))), (.int ((34 : Int32) - (0 : Int32))), (.int (0 : Int32)), (.ref b5), (.int (0 : Int32)), (.ref a1)])) _
    refine st6 _ ?_
    show Steps p.tables e below (T6.setTop (mkF m 27 #[.val (.ref a1), .val (.int (0 : Int32)), .val (.int (21 : Int32)), .val (.int ((21 : Int32) - (0 : Int32))), .val (.ref b5)] [(.int ((21 : Int32) - (0 : Int32))), (.int (0 : Int32)), (.ref b5), (.int (0 : Int32)), (.ref a1)])) _
    refine st7 _ ?_
    show Steps p.tables e below (T7.setTop (mkF m 30 #[.val (.ref a1), .val (.int (0 : Int32)), .val (.int (21 : Int32)), .val (.int ((21 : Int32) - (0 : Int32))), .val (.ref b5)] [])) _
    refine XS.aload X7.here hx rfl (hb hby d28_30) rfl rfl ?_
    show Steps p.tables e below (T7.setTop (mkF m 32 #[.val (.ref a1), .val (.int (0 : Int32)), .val (.int (21 : Int32)), .val (.int ((21 : Int32) - (0 : Int32))), .val (.ref b5)] [(.ref b5)])) _
    jvm_step X7.here [X7.here.top, hx, (hb hby d28_32), X7.method', Bd.returns, Value.isRef, FieldType.isReference]
    first | (intro acts; rw [hr _ acts rfl rfl rfl]) | rw [hr _ _ rfl rfl rfl]
    exact Steps.refl _
  · show Q19 Z 21 h0 n0 _ T7.heap _
    rw [e7]
    refine ⟨by rw [g5], N7, K5.trans K7 (allS (Or.inr sz_b5) all0), k5, _, by rw [← g5]; exact V7, ?_⟩
    simp
set_option maxRecDepth 65536 in
set_option maxHeartbeats 40000000 in
theorem r27_21 (l : Launch) (Z : State) (a0 : Array Value) (hw : ∀ d ∈ tables_1, d.before a0 Z = true) (ws : List Jvm.Cond) (a1 : Addr) (kd : ClassId) (vd : List Value) (h0 : Heap) (n0 : Nat) (Z0 : n0 ≤ h0.size) (B : Arv Z h0 a1 kd .byte (34 : Int32) vd (.int 0)) :
    MetFree l (⟨"java/util/Arrays", "copyOfRange", "([BII)[B"⟩ : MethodName) (head1 (Jvm.Cond.code (⟨"java/util/Arrays", "copyOfRange", "([BII)[B"⟩ : MethodName) jdk_65_method_132_code 3 (some (.array .byte)) :: ws) ({ frames := 2, cells := 1, slots := 21, locals := 34 } : Room)) (fun a U => a = #[(.ref a1), (.int (0 : Int32)), (.int (21 : Int32))] ∧ Z.Warmed39 U.vm ∧ U.heap = h0) (fun _ _ _ _ _ => True) (fun _ U o U' => ∃ v L, o = .returned v ∧ Q19 Z 21 h0 n0 v U'.heap L ∧ FrameEnd U o U' L ({ frames := 2, cells := 1, slots := 21, locals := 34 } : Room).cells ({ frames := 2, cells := 1, slots := 21, locals := 34 } : Room).slots) := by
  refine MetFree.of_bodySF (plainFor_of_name pn_27) hisR ?_
  intro p e s m args below meth c s₁ Bd hml0 hP hK
  obtain ⟨rfl, hZ, hh⟩ := hP
  have hx := Bd.exec
  obtain ⟨cl_a1, Ar_a1, qb, S_a1, N_a1, Hb, Gb⟩ := id B
  have hc1 : (0 : Int32) = (0 : Int32) := rfl
  have hc7 : ¬ ((21 : Int32) = (34 : Int32)) := by decide
  have hby := Bd.bytes
  have hml : c.maxLocals = 3 := hml0
  have hown : s.vm.findClass "java/util/Arrays" = some m.cls := findClass_of_methodNamed Bd.named
  have hnm := (name_of_methodNamed Bd.named Bd.method).1
  have X0 : Stand p l e ({ frames := 2, cells := 1, slots := 21, locals := 34 } : Room) s m #[(.ref a1), (.int (0 : Int32)), (.int (21 : Int32))] below meth c s₁ [] 0 0 := Stand.of_body Bd
  have e0 : s₁.heap = h0 := by rw [← hh, Bd.state]; rfl
  have N0 := Fr.nil n0
  have pre0 : ∀ t, Steps p.tables e below (s₁.setTop (mkF m 0 #[.val (.ref a1), .val (.int (0 : Int32)), .val (.int (21 : Int32))] [])) t → Steps p.tables e below (s₁.setTop (entryFrame m #[(.ref a1), (.int (0 : Int32)), (.int (21 : Int32))] 3)) t := fun t k => castTop (ef_27 m a1 (0 : Int32) (21 : Int32)) k
  obtain ⟨_, _, ⟨T4, L4, k4, n4⟩, -, X4, ⟨Lc4, hQ4, l4, y4, z4⟩, st4⟩ := Jvm.LawKit.callS X0 hx (y := (⟨"java/util/Arrays", "copyOfRangeByte", "([BII)[B"⟩ : MethodName)) hown (mvT hZ (hw _ (List.mem_of_getElem? (i := 156) rfl))) (mvT hZ (hw _ (List.mem_of_getElem? (i := 157) rfl))) (mvT hZ (hw _ (List.mem_of_getElem? (i := 117) rfl))) (mvT hZ (hw _ (List.mem_of_getElem? (i := 158) rfl))) (by decide) (backOf (W := 0) (r28_21 l Z a0 hw [] a1 kd vd h0 n0 Z0 B) hZ (hw _ (List.mem_of_getElem? (i := 158) rfl)) (hw _ (List.mem_of_getElem? (i := 117) rfl)) (by decide) (by decide)) (g := (mkF m 13 #[.val (.ref a1), .val (.int (0 : Int32)), .val (.int (21 : Int32))] [(.int (21 : Int32)), (.int (0 : Int32)), (.ref a1)])) rfl (by rw [hml]; rfl) (argsL := [(.ref a1), (.int (0 : Int32)), (.int (21 : Int32))]) (rest := []) (lenOf pd_27_21 rfl) rfl (by show 2 * 0 + _ ≤ _; exact Nat.le_of_eq rfl) (hb hby d27_13) (fun _ _ => ⟨rfl, e0, (by decide : 0 + 1 ≤ _), (by decide : 0 + 21 ≤ _)⟩)
  dsimp only [Pt.U, Pt.locs, Pt.cells, Pt.slots] at X4 l4 y4 z4 st4 hQ4
  subst l4 y4 z4
  obtain ⟨rfl, N4q, Qq⟩ := hQ4
  have N4 := Fr.app N0 N4q
  obtain ⟨fs, hr, hrun, hended, hW, hsame⟩ := X4.leave (v := some (.ref h0.size)) (fun h => by rw [Bd.returns] at h; cases h)
  refine ⟨_, _, pre0 _ ?_, hrun, hended, _, _, rfl, ?_, ⟨_, rfl⟩, hW, hsame.mono (by decide) (by decide)⟩
  · show Steps p.tables e below (s₁.setTop (mkF m 0 #[.val (.ref a1), .val (.int (0 : Int32)), .val (.int (21 : Int32))] [])) _
    refine XS.iloadN X0.here hx rfl (hb hby d27_0) rfl ?_
    show Steps p.tables e below (s₁.setTop (mkF m 1 #[.val (.ref a1), .val (.int (0 : Int32)), .val (.int (21 : Int32))] [(.int (0 : Int32))])) _
    refine XS.ifNo X0.here hx rfl (hb hby d27_1) rfl ((if0 _ _).trans (teq hc1).2) ?_
    show Steps p.tables e below (s₁.setTop (mkF m 4 #[.val (.ref a1), .val (.int (0 : Int32)), .val (.int (21 : Int32))] [])) _
    refine XS.iloadN X0.here hx rfl (hb hby d27_4) rfl ?_
    show Steps p.tables e below (s₁.setTop (mkF m 5 #[.val (.ref a1), .val (.int (0 : Int32)), .val (.int (21 : Int32))] [(.int (21 : Int32))])) _
    refine XS.aloadN X0.here hx rfl (hb hby d27_5) rfl rfl ?_
    show Steps p.tables e below (s₁.setTop (mkF m 6 #[.val (.ref a1), .val (.int (0 : Int32)), .val (.int (21 : Int32))] [(.ref a1), (.int (21 : Int32))])) _
    refine X0.arraylength hx (by rw [e0]; exact Ar_a1.1) (State.isArrayOf_alike hZ.alike Ar_a1.2.1) (g := (mkF m 6 #[.val (.ref a1), .val (.int (0 : Int32)), .val (.int (21 : Int32))] [(.ref a1), (.int (21 : Int32))])) rfl rfl (hb hby d27_6) _ ?_
    rw [len_of S_a1 N_a1]
    show Steps p.tables e below (s₁.setTop (mkF m 7 #[.val (.ref a1), .val (.int (0 : Int32)), .val (.int (21 : Int32))] [(.int (34 : Int32)), (.int (21 : Int32))])) _
    refine XS.icmpNo X0.here hx rfl (hb hby d27_7) rfl (feq hc7).1 ?_
    show Steps p.tables e below (s₁.setTop (mkF m 10 #[.val (.ref a1), .val (.int (0 : Int32)), .val (.int (21 : Int32))] [])) _
    refine XS.aloadN X0.here hx rfl (hb hby d27_10) rfl rfl ?_
    show Steps p.tables e below (s₁.setTop (mkF m 11 #[.val (.ref a1), .val (.int (0 : Int32)), .val (.int (21 : Int32))] [(.ref a1)])) _
    refine XS.iloadN X0.here hx rfl (hb hby d27_11) rfl ?_
    show Steps p.tables e below (s₁.setTop (mkF m 12 #[.val (.ref a1), .val (.int (0 : Int32)), .val (.int (21 : Int32))] [(.int (0 : Int32)), (.ref a1)])) _
    refine XS.iloadN X0.here hx rfl (hb hby d27_12) rfl ?_
    show Steps p.tables e below (s₁.setTop (mkF m 13 #[.val (.ref a1), .val (.int (0 : Int32)), .val (.int (21 : Int32))] [(.int (21 : Int32)), (.int (0 : Int32)), (.ref a1)])) _
    refine st4 _ ?_
    show Steps p.tables e below (T4.setTop (mkF m 16 #[.val (.ref a1), .val (.int (0 : Int32)), .val (.int (21 : Int32))] [(.ref h0.size)])) _
    jvm_step X4.here [X4.here.top, hx, (hb hby d27_16), X4.method', Bd.returns, Value.isRef, FieldType.isReference]
    first | (intro acts; rw [hr _ acts rfl rfl rfl]) | rw [hr _ _ rfl rfl rfl]
    exact Steps.refl _
  · show Q19 Z 21 h0 n0 _ T4.heap _
    exact ⟨rfl, N4, Qq⟩
set_option maxRecDepth 65536 in
set_option maxHeartbeats 40000000 in
theorem r22_21 (l : Launch) (Z : State) (a0 : Array Value) (hw : ∀ d ∈ tables_1, d.before a0 Z = true) (ws : List Jvm.Cond) (a1 : Addr) (a2 : Addr) (tb : Addr) (u_coder_a1 : Value) (u_value_a1 : Value) (h0 : Heap) (n0 : Nat) (Z0 : n0 ≤ h0.size) (SB : own_SBv Z h0 a2 21 34 tb) (E_a1 : Exa Z h0 a1 "java/lang/String") (F_coder_a1 : Fld Z h0 a1 "java/lang/String" "coder" "B" u_coder_a1) (g_a1 : n0 ≤ a1) (F_value_a1 : Fld Z h0 a1 "java/lang/String" "value" "[B" u_value_a1) (CS : own_CS Z h0) :
    MetFree l (⟨"java/lang/String", "<init>", "(Ljava/lang/AbstractStringBuilder;Ljava/lang/Void;)V"⟩ : MethodName) (head1 (Jvm.Cond.code (⟨"java/lang/String", "<init>", "(Ljava/lang/AbstractStringBuilder;Ljava/lang/Void;)V"⟩ : MethodName) jdk_42_method_150_code 5 none :: ws) ({ frames := 3, cells := 1, slots := 21, locals := 50 } : Room)) (fun a U => a = #[(.ref a1), (.ref a2), .null] ∧ Z.Warmed39 U.vm ∧ U.heap = h0) (fun _ _ _ _ _ => True) (fun _ U o U' => ∃ v L, o = .returned v ∧ Q22 Z a1 21 h0 n0 v U'.heap L ∧ FrameEnd U o U' L ({ frames := 3, cells := 1, slots := 21, locals := 50 } : Room).cells ({ frames := 3, cells := 1, slots := 21, locals := 50 } : Room).slots) := by
  refine MetFree.of_bodySF (plainFor_of_name pn_22) hisR ?_
  intro p e s m args below meth c s₁ Bd hml0 hP hK
  obtain ⟨rfl, hZ, hh⟩ := hP
  have hx := Bd.exec
  obtain ⟨E_a2, F_c2, F_n2, F_v2, kd, vd, B, hvd⟩ := id SB
  obtain ⟨zc, SC, hz⟩ := id CS
  have hby := Bd.bytes
  have hml : c.maxLocals = 5 := hml0
  have hown : s.vm.findClass "java/lang/String" = some m.cls := findClass_of_methodNamed Bd.named
  have hnm := (name_of_methodNamed Bd.named Bd.method).1
  have X0 : Stand p l e ({ frames := 3, cells := 1, slots := 21, locals := 50 } : Room) s m #[(.ref a1), (.ref a2), .null] below meth c s₁ [] 0 0 := Stand.of_body Bd
  have e0 : s₁.heap = h0 := by rw [← hh, Bd.state]; rfl
  have N0 := Fr.nil n0
  have pre0 : ∀ t, Steps p.tables e below (s₁.setTop (mkF m 0 #[.val (.ref a1), .val (.ref a2), .val .null, .unset, .unset] [])) t → Steps p.tables e below (s₁.setTop (entryFrame m #[(.ref a1), (.ref a2), .null] 5)) t := fun t k => castTop (ef_22 m a1 a2) k
  obtain ⟨T3, X3, e3, st3⟩ := initO X0 hx hZ hown (hw _ (List.mem_of_getElem? (i := 134) rfl)) (hw _ (List.mem_of_getElem? (i := 21) rfl)) (hw _ (List.mem_of_getElem? (i := 22) rfl)) e0 (g := (mkF m 1 #[.val (.ref a1), .val (.ref a2), .val .null, .unset, .unset] [(.ref a1)])) rfl (by rw [hml]; rfl) rfl (hb hby d22_1) (by decide) (W := 0) (by show 2 * 0 + _ ≤ _; exact Nat.le_of_eq rfl) (by decide)
  obtain ⟨cq4, kq4, q4a, q4b, q4c⟩ := isOf hZ e3 E_a2
  obtain ⟨_, _, ⟨T4, L4, k4, n4⟩, -, X4, ⟨Lc4, hQ4, l4, y4, z4⟩, st4⟩ := X3.virtualBack hx (y := (⟨"java/lang/AbstractStringBuilder", "getValue", "()[B"⟩ : MethodName)) (z := (⟨"java/lang/AbstractStringBuilder", "getValue", "()[B"⟩ : MethodName)) hown (mvT hZ (hw _ (List.mem_of_getElem? (i := 135) rfl))) (mvT hZ (hw _ (List.mem_of_getElem? (i := 136) rfl))) (notFace_of_selects (args := #[]) (mvT hZ (hw _ (List.mem_of_getElem? (i := 138) rfl)))) (mvT hZ (hw _ (List.mem_of_getElem? (i := 138) rfl))) (mvT hZ (hw _ (List.mem_of_getElem? (i := 137) rfl))) (by decide) (backOf (W := 0) (r23 l Z a0 hw [] a2 tb h0 n0 Z0 F_v2) hZ (hw _ (List.mem_of_getElem? (i := 139) rfl)) (hw _ (List.mem_of_getElem? (i := 44) rfl)) (by decide) (by decide)) q4a q4c (g := (mkF m 5 #[.val (.ref a1), .val (.ref a2), .val .null, .unset, .unset] [(.ref a2)])) rfl (by rw [hml]; rfl) (Steps.refl _) (argsL := []) (rest := []) (lenOf pd_22_19 rfl) rfl (by show 2 * 0 + _ ≤ _; exact Nat.le_of_eq rfl) (hb hby d22_5) (fun _ _ => ⟨rfl, e3, (by decide : 0 + 0 ≤ _), (by decide : 0 + 0 ≤ _)⟩)
  dsimp only [Pt.U, Pt.locs, Pt.cells, Pt.slots] at X4 l4 y4 z4 st4 hQ4
  subst l4 y4 z4
  obtain ⟨rfl, N4q, e4⟩ := hQ4
  have N4 := Fr.app N0 N4q
  obtain ⟨cq5, kq5, q5a, q5b, q5c⟩ := isOf hZ e4 E_a2
  obtain ⟨_, _, ⟨T5, L5, k5, n5⟩, -, X5, ⟨Lc5, hQ5, l5, y5, z5⟩, st5⟩ := X4.virtualBack hx (y := (⟨"java/lang/AbstractStringBuilder", "length", "()I"⟩ : MethodName)) (z := (⟨"java/lang/StringBuilder", "length", "()I"⟩ : MethodName)) hown (mvT hZ (hw _ (List.mem_of_getElem? (i := 140) rfl))) (mvT hZ (hw _ (List.mem_of_getElem? (i := 141) rfl))) (own_nf (notFace_of_selects (args := #[]) (mvT hZ (hw _ (List.mem_of_getElem? (i := 80) rfl)))) (mvT hZ (hw _ (List.mem_of_getElem? (i := 78) rfl)) : (Cond.instanceMethod _).before #[] s = true) rfl) (mvT hZ (hw _ (List.mem_of_getElem? (i := 143) rfl))) (mvT hZ (hw _ (List.mem_of_getElem? (i := 144) rfl))) (by decide) (backOf (W := 0) (r24 l Z a0 hw [] a2 (21 : Int32) h0 n0 Z0 E_a2 F_n2) hZ (hw _ (List.mem_of_getElem? (i := 145) rfl)) (hw _ (List.mem_of_getElem? (i := 36) rfl)) (by decide) (by decide)) q5a q5c (g := (mkF m 10 #[.val (.ref a1), .val (.ref a2), .val .null, .val (.ref tb), .unset] [(.ref a2)])) rfl (by rw [hml]; rfl) (Steps.refl _) (argsL := []) (rest := []) (lenOf pd_22_7 rfl) rfl (by show 2 * 0 + _ ≤ _; exact Nat.le_of_eq rfl) (hb hby d22_10) (fun _ _ => ⟨rfl, e4, (by decide : 0 + 0 ≤ _), (by decide : 0 + 0 ≤ _)⟩)
  dsimp only [Pt.U, Pt.locs, Pt.cells, Pt.slots] at X5 l5 y5 z5 st5 hQ5
  subst l5 y5 z5
  obtain ⟨rfl, N5q, e5⟩ := hQ5
  have N5 := Fr.app N4 N5q
  obtain ⟨cq6, kq6, q6a, q6b, q6c⟩ := isOf hZ e5 E_a2
  obtain ⟨_, _, ⟨T6, L6, k6, n6⟩, -, X6, ⟨Lc6, hQ6, l6, y6, z6⟩, st6⟩ := X5.virtualBack hx (y := (⟨"java/lang/AbstractStringBuilder", "isLatin1", "()Z"⟩ : MethodName)) (z := (⟨"java/lang/AbstractStringBuilder", "isLatin1", "()Z"⟩ : MethodName)) hown (mvT hZ (hw _ (List.mem_of_getElem? (i := 148) rfl))) (mvT hZ (hw _ (List.mem_of_getElem? (i := 149) rfl))) (notFace_of_selects (args := #[]) (mvT hZ (hw _ (List.mem_of_getElem? (i := 151) rfl)))) (mvT hZ (hw _ (List.mem_of_getElem? (i := 151) rfl))) (mvT hZ (hw _ (List.mem_of_getElem? (i := 150) rfl))) (by decide) (backOf (W := 0) (r26 l Z a0 hw [] a2 zc (0 : Int32) h0 n0 Z0 SC F_c2 hz rfl) hZ (hw _ (List.mem_of_getElem? (i := 152) rfl)) (hw _ (List.mem_of_getElem? (i := 44) rfl)) (by decide) (by decide)) q6a q6c (g := (mkF m 16 #[.val (.ref a1), .val (.ref a2), .val .null, .val (.ref tb), .val (.int (21 : Int32))] [(.ref a2)])) rfl (by rw [hml]; rfl) (Steps.refl _) (argsL := []) (rest := []) (lenOf pd_22_20 rfl) rfl (by show 2 * 0 + _ ≤ _; exact Nat.le_of_eq rfl) (hb hby d22_16) (fun _ _ => ⟨rfl, e5, (by decide : 0 + 0 ≤ _), (by decide : 0 + 0 ≤ _)⟩)
  dsimp only [Pt.U, Pt.locs, Pt.cells, Pt.slots] at X6 l6 y6 z6 st6 hQ6
  subst l6 y6 z6
  obtain ⟨rfl, N6q, e6⟩ := hQ6
  have N6 := Fr.app N5 N6q
  obtain ⟨T7, h7, X7, e7, W7, st7⟩ := putFN X6 hx hZ hown (hw _ (List.mem_of_getElem? (i := 74) rfl)) Via.refl e6 F_coder_a1 E_a1 (Or.inr ⟨(hw _ (List.mem_of_getElem? (i := 28) rfl)), rfl, hnm⟩) (hw _ (List.mem_of_getElem? (i := 25) rfl)) (ty := .byte) (v' := (.int (0 : Int32))) (by decide) rfl (by decide) (g := (mkF m 24 #[.val (.ref a1), .val (.ref a2), .val .null, .val (.ref tb), .val (.int (21 : Int32))] [(.int (0 : Int32)), (.ref a1)])) rfl rfl (hb hby d22_24)
  have Fw7 := F_coder_a1.same W7
  have K7 : Keep h0 h7 [a1] := (Keep.refl h0 [a1]).wr W7 (Or.inl (List.mem_of_getElem? (i := 0) rfl))
  have N7 := Fr.snoc X7 N6 g_a1
  obtain ⟨_, _, ⟨T8, L8, k8, n8⟩, -, X8, ⟨Lc8, hQ8, l8, y8, z8⟩, st8⟩ := Jvm.LawKit.callS X7 hx (y := (⟨"java/util/Arrays", "copyOfRange", "([BII)[B"⟩ : MethodName)) hown (mvT hZ (hw _ (List.mem_of_getElem? (i := 153) rfl))) (mvT hZ (hw _ (List.mem_of_getElem? (i := 154) rfl))) (mvT hZ (hw _ (List.mem_of_getElem? (i := 117) rfl))) (mvT hZ (hw _ (List.mem_of_getElem? (i := 155) rfl))) (by decide) (backOf (W := 1) (r27_21 l Z a0 hw [] tb kd vd h7 n0 (Nat.le_trans Z0 K7.1) (B.other W7 (fun q => Exa.neArv E_a1 B (hw _ (List.mem_of_getElem? (i := 25) rfl)) q.symm))) hZ (hw _ (List.mem_of_getElem? (i := 155) rfl)) (hw _ (List.mem_of_getElem? (i := 117) rfl)) (by decide) (by decide)) (g := (mkF m 32 #[.val (.ref a1), .val (.ref a2), .val .null, .val (.ref tb), .val (.int (21 : Int32))] [(.int (21 : Int32)), (.int (0 : Int32)), (.ref tb), (.ref a1)])) rfl (by rw [hml]; rfl) (argsL := [(.ref tb), (.int (0 : Int32)), (.int (21 : Int32))]) (rest := [(.ref a1)]) (lenOf pd_22_21 rfl) rfl (by show 2 * 0 + _ ≤ _; exact Nat.le_of_eq rfl) (hb hby d22_32) (fun _ _ => ⟨rfl, e7, (by decide : 0 + 1 ≤ _), (by decide : 0 + 21 ≤ _)⟩)
  dsimp only [Pt.U, Pt.locs, Pt.cells, Pt.slots] at X8 l8 y8 z8 st8 hQ8
  subst l8 y8 z8
  obtain ⟨rfl, N8q, K8, k8x, vs8, V8, hv8⟩ := hQ8
  have N8 := Fr.app N7 N8q
  obtain ⟨T9, h9, X9, e9, W9, st9⟩ := putF X8 hx hZ hown (host := "") (Or.inl (hw _ (List.mem_of_getElem? (i := 67) rfl))) Via.refl rfl ((F_value_a1.other W7 (Or.inr (slot_ne (Or.inr (hw _ (List.mem_of_getElem? (i := 27) rfl))) (Or.inr (hw _ (List.mem_of_getElem? (i := 28) rfl))) (by decide) (t := (.array .byte)) (t' := .byte) (by decide) (by decide)))).keep K8 nin0) ((E_a1.wr W7).keep K8) (Or.inr ⟨(hw _ (List.mem_of_getElem? (i := 27) rfl)), rfl, hnm⟩) (hw _ (List.mem_of_getElem? (i := 25) rfl)) (ty := (.array .byte)) (by decide) rfl rfl (g := (mkF m 35 #[.val (.ref a1), .val (.ref a2), .val .null, .val (.ref tb), .val (.int (21 : Int32))] [(.ref h7.size), (.ref a1)])) rfl rfl (hb hby d22_35)
  have Fw9 := ((F_value_a1.other W7 (Or.inr (slot_ne (Or.inr (hw _ (List.mem_of_getElem? (i := 27) rfl))) (Or.inr (hw _ (List.mem_of_getElem? (i := 28) rfl))) (by decide) (t := (.array .byte)) (t' := .byte) (by decide) (by decide)))).keep K8 nin0).same W9
  have K9 : Keep h0 h9 [a1] := (K7.trans K8 all0).wr W9 (Or.inl (List.mem_of_getElem? (i := 0) rfl))
  have N9 := Fr.snoc X9 N8 g_a1
  obtain ⟨fs, hr, hrun, hended, hW, hsame⟩ := X9.leave (v := none) (fun _ => rfl)
  refine ⟨_, _, pre0 _ ?_, hrun, hended, _, _, rfl, ?_, ⟨_, rfl⟩, hW, hsame.mono (by decide) (by decide)⟩
  · show Steps p.tables e below (s₁.setTop (mkF m 0 #[.val (.ref a1), .val (.ref a2), .val .null, .unset, .unset] [])) _
    refine XS.aloadN X0.here hx rfl (hb hby d22_0) rfl rfl ?_
    show Steps p.tables e below (s₁.setTop (mkF m 1 #[.val (.ref a1), .val (.ref a2), .val .null, .unset, .unset] [(.ref a1)])) _
    refine st3 _ ?_
    show Steps p.tables e below (T3.setTop (mkF m 4 #[.val (.ref a1), .val (.ref a2), .val .null, .unset, .unset] [])) _
    refine XS.aloadN X3.here hx rfl (hb hby d22_4) rfl rfl ?_
    show Steps p.tables e below (T3.setTop (mkF m 5 #[.val (.ref a1), .val (.ref a2), .val .null, .unset, .unset] [(.ref a2)])) _
    refine st4.trans ?_
    show Steps p.tables e below (T4.setTop (mkF m 8 #[.val (.ref a1), .val (.ref a2), .val .null, .unset, .unset] [(.ref tb)])) _
    refine XS.astoreN X4.here hx rfl (hb hby d22_8) rfl rfl (l' := #[.val (.ref a1), .val (.ref a2), .val .null, .val (.ref tb), .unset]) rfl ?_
    show Steps p.tables e below (T4.setTop (mkF m 9 #[.val (.ref a1), .val (.ref a2), .val .null, .val (.ref tb), .unset] [])) _
    refine XS.aloadN X4.here hx rfl (hb hby d22_9) rfl rfl ?_
    show Steps p.tables e below (T4.setTop (mkF m 10 #[.val (.ref a1), .val (.ref a2), .val .null, .val (.ref tb), .unset] [(.ref a2)])) _
    refine st5.trans ?_
    show Steps p.tables e below (T5.setTop (mkF m 13 #[.val (.ref a1), .val (.ref a2), .val .null, .val (.ref tb), .unset] [(.int (21 : Int32))])) _
    refine XS.istore X5.here hx rfl (hb hby d22_13) rfl (l' := #[.val (.ref a1), .val (.ref a2), .val .null, .val (.ref tb), .val (.int (21 : Int32))]) rfl ?_
    show Steps p.tables e below (T5.setTop (mkF m 15 #[.val (.ref a1), .val (.ref a2), .val .null, .val (.ref tb), .val (.int (21 : Int32))] [])) _
    refine XS.aloadN X5.here hx rfl (hb hby d22_15) rfl rfl ?_
    show Steps p.tables e below (T5.setTop (mkF m 16 #[.val (.ref a1), .val (.ref a2), .val .null, .val (.ref tb), .val (.int (21 : Int32))] [(.ref a2)])) _
    refine st6.trans ?_
    show Steps p.tables e below (T6.setTop (mkF m 19 #[.val (.ref a1), .val (.ref a2), .val .null, .val (.ref tb), .val (.int (21 : Int32))] [(.int (1 : Int32))])) _
    refine XS.ifNo X6.here hx rfl (hb hby d22_19) rfl ((if0 _ _).trans (feq (by decide : ¬ ((1 : Int32) = (0 : Int32)))).1) ?_
    show Steps p.tables e below (T6.setTop (mkF m 22 #[.val (.ref a1), .val (.ref a2), .val .null, .val (.ref tb), .val (.int (21 : Int32))] [])) _
    refine XS.aloadN X6.here hx rfl (hb hby d22_22) rfl rfl ?_
    show Steps p.tables e below (T6.setTop (mkF m 23 #[.val (.ref a1), .val (.ref a2), .val .null, .val (.ref tb), .val (.int (21 : Int32))] [(.ref a1)])) _
    refine XS.iconst X6.here hx rfl (hb hby d22_23) ?_
    show Steps p.tables e below (T6.setTop (mkF m 24 #[.val (.ref a1), .val (.ref a2), .val .null, .val (.ref tb), .val (.int (21 : Int32))] [(.int (0 : Int32)), (.ref a1)])) _
    refine st7 _ ?_
    show Steps p.tables e below (T7.setTop (mkF m 27 #[.val (.ref a1), .val (.ref a2), .val .null, .val (.ref tb), .val (.int (21 : Int32))] [])) _
    refine XS.aloadN X7.here hx rfl (hb hby d22_27) rfl rfl ?_
    show Steps p.tables e below (T7.setTop (mkF m 28 #[.val (.ref a1), .val (.ref a2), .val .null, .val (.ref tb), .val (.int (21 : Int32))] [(.ref a1)])) _
    refine XS.aloadN X7.here hx rfl (hb hby d22_28) rfl rfl ?_
    show Steps p.tables e below (T7.setTop (mkF m 29 #[.val (.ref a1), .val (.ref a2), .val .null, .val (.ref tb), .val (.int (21 : Int32))] [(.ref tb), (.ref a1)])) _
    refine XS.iconst X7.here hx rfl (hb hby d22_29) ?_
    show Steps p.tables e below (T7.setTop (mkF m 30 #[.val (.ref a1), .val (.ref a2), .val .null, .val (.ref tb), .val (.int (21 : Int32))] [(.int (0 : Int32)), (.ref tb), (.ref a1)])) _
    refine XS.iload X7.here hx rfl (hb hby d22_30) rfl ?_
    show Steps p.tables e below (T7.setTop (mkF m 32 #[.val (.ref a1), .val (.ref a2), .val .null, .val (.ref tb), .val (.int (21 : Int32))] [(.int (21 : Int32)), (.int (0 : Int32)), (.ref tb), (.ref a1)])) _
    refine st8 _ ?_
    show Steps p.tables e below (T8.setTop (mkF m 35 #[.val (.ref a1), .val (.ref a2), .val .null, .val (.ref tb), .val (.int (21 : Int32))] [(.ref h7.size), (.ref a1)])) _
    refine st9 _ ?_
    show Steps p.tables e below (T9.setTop (mkF m 38 #[.val (.ref a1), .val (.ref a2), .val .null, .val (.ref tb), .val (.int (21 : Int32))] [])) _
    refine XS.goto X9.here hx rfl (pc0 := 38) (pc' := 97) rfl (hb hby d22_38) (by decide) (by decide) ?_
    show Steps p.tables e below (T9.setTop (mkF m 97 #[.val (.ref a1), .val (.ref a2), .val .null, .val (.ref tb), .val (.int (21 : Int32))] [])) _
    exact X9.returnOut hx Bd.returns (hb hby d22_97) hr
  · show Q22 Z a1 21 h0 n0 _ T9.heap _
    rw [e9]
    have hne : h7.size ≠ a1 := Nat.ne_of_gt (Nat.lt_of_lt_of_le E_a1.lt K7.1)
    exact ⟨rfl, N9, K9, ((E_a1.wr W7).keep K8).wr W9, (Fw7.keep K8 nin0).other W9 (Or.inr (slot_ne (Or.inr (hw _ (List.mem_of_getElem? (i := 28) rfl))) (Or.inr (hw _ (List.mem_of_getElem? (i := 27) rfl))) (by decide) (t := .byte) (t' := (.array .byte)) (by decide) (by decide))), h7.size, k8x, vs8, Fw9, V8.other W9 hne⟩
set_option maxRecDepth 65536 in
set_option maxHeartbeats 40000000 in
theorem r21_21 (l : Launch) (Z : State) (a0 : Array Value) (hw : ∀ d ∈ tables_1, d.before a0 Z = true) (ws : List Jvm.Cond) (a1 : Addr) (a2 : Addr) (tb : Addr) (u_coder_a1 : Value) (u_value_a1 : Value) (h0 : Heap) (n0 : Nat) (Z0 : n0 ≤ h0.size) (SB : own_SBv Z h0 a2 21 34 tb) (E_a1 : Exa Z h0 a1 "java/lang/String") (F_coder_a1 : Fld Z h0 a1 "java/lang/String" "coder" "B" u_coder_a1) (g_a1 : n0 ≤ a1) (F_value_a1 : Fld Z h0 a1 "java/lang/String" "value" "[B" u_value_a1) (CS : own_CS Z h0) :
    MetFree l (⟨"java/lang/String", "<init>", "(Ljava/lang/StringBuilder;)V"⟩ : MethodName) (head1 (Jvm.Cond.code (⟨"java/lang/String", "<init>", "(Ljava/lang/StringBuilder;)V"⟩ : MethodName) jdk_42_method_53_code 2 none :: ws) ({ frames := 4, cells := 1, slots := 21, locals := 66 } : Room)) (fun a U => a = #[(.ref a1), (.ref a2)] ∧ Z.Warmed39 U.vm ∧ U.heap = h0) (fun _ _ _ _ _ => True) (fun _ U o U' => ∃ v L, o = .returned v ∧ Q22 Z a1 21 h0 n0 v U'.heap L ∧ FrameEnd U o U' L ({ frames := 4, cells := 1, slots := 21, locals := 66 } : Room).cells ({ frames := 4, cells := 1, slots := 21, locals := 66 } : Room).slots) := by
  refine MetFree.of_bodySF (plainFor_of_name pn_21) hisR ?_
  intro p e s m args below meth c s₁ Bd hml0 hP hK
  obtain ⟨rfl, hZ, hh⟩ := hP
  have hx := Bd.exec
  have hby := Bd.bytes
  have hml : c.maxLocals = 2 := hml0
  have hown : s.vm.findClass "java/lang/String" = some m.cls := findClass_of_methodNamed Bd.named
  have hnm := (name_of_methodNamed Bd.named Bd.method).1
  have X0 : Stand p l e ({ frames := 4, cells := 1, slots := 21, locals := 66 } : Room) s m #[(.ref a1), (.ref a2)] below meth c s₁ [] 0 0 := Stand.of_body Bd
  have e0 : s₁.heap = h0 := by rw [← hh, Bd.state]; rfl
  have N0 := Fr.nil n0
  have pre0 : ∀ t, Steps p.tables e below (s₁.setTop (mkF m 0 #[.val (.ref a1), .val (.ref a2)] [])) t → Steps p.tables e below (s₁.setTop (entryFrame m #[(.ref a1), (.ref a2)] 2)) t := fun t k => castTop (ef_21 m a1 a2) k
  obtain ⟨_, _, ⟨T3, L3, k3, n3⟩, -, X3, ⟨Lc3, hQ3, l3, y3, z3⟩, st3⟩ := X0.specialBack hx (y := (⟨"java/lang/String", "<init>", "(Ljava/lang/AbstractStringBuilder;Ljava/lang/Void;)V"⟩ : MethodName)) rfl hown (mvT hZ (hw _ (List.mem_of_getElem? (i := 131) rfl))) (mvT hZ (hw _ (List.mem_of_getElem? (i := 132) rfl))) (mvT hZ (hw _ (List.mem_of_getElem? (i := 133) rfl))) (by decide) (backOf (W := 0) (r22_21 l Z a0 hw [] a1 a2 tb u_coder_a1 u_value_a1 h0 n0 Z0 SB E_a1 F_coder_a1 g_a1 F_value_a1 CS) hZ (hw _ (List.mem_of_getElem? (i := 133) rfl)) (hw _ (List.mem_of_getElem? (i := 24) rfl)) (by decide) (by decide)) (g := (mkF m 3 #[.val (.ref a1), .val (.ref a2)] [.null, (.ref a2), (.ref a1)])) rfl (by rw [hml]; rfl) (Steps.refl _) (a := a1) (argsL := [(.ref a2), .null]) (rest := []) (lenOf pd_21_18 rfl) rfl (by show 2 * 0 + _ ≤ _; exact Nat.le_of_eq rfl) (hb hby d21_3) (fun _ _ => ⟨rfl, e0, (by decide : 0 + 1 ≤ _), (by decide : 0 + 21 ≤ _)⟩)
  dsimp only [Pt.U, Pt.locs, Pt.cells, Pt.slots] at X3 l3 y3 z3 st3 hQ3
  subst l3 y3 z3
  obtain ⟨rfl, N3q, Qq⟩ := hQ3
  have N3 := Fr.app N0 N3q
  obtain ⟨fs, hr, hrun, hended, hW, hsame⟩ := X3.leave (v := none) (fun _ => rfl)
  refine ⟨_, _, pre0 _ ?_, hrun, hended, _, _, rfl, ?_, ⟨_, rfl⟩, hW, hsame.mono (by decide) (by decide)⟩
  · show Steps p.tables e below (s₁.setTop (mkF m 0 #[.val (.ref a1), .val (.ref a2)] [])) _
    refine XS.aloadN X0.here hx rfl (hb hby d21_0) rfl rfl ?_
    show Steps p.tables e below (s₁.setTop (mkF m 1 #[.val (.ref a1), .val (.ref a2)] [(.ref a1)])) _
    refine XS.aloadN X0.here hx rfl (hb hby d21_1) rfl rfl ?_
    show Steps p.tables e below (s₁.setTop (mkF m 2 #[.val (.ref a1), .val (.ref a2)] [(.ref a2), (.ref a1)])) _
    refine XS.aconstNull X0.here hx rfl (hb hby d21_2) ?_
    show Steps p.tables e below (s₁.setTop (mkF m 3 #[.val (.ref a1), .val (.ref a2)] [.null, (.ref a2), (.ref a1)])) _
    refine st3.trans ?_
    show Steps p.tables e below (T3.setTop (mkF m 6 #[.val (.ref a1), .val (.ref a2)] [])) _
    exact X3.returnOut hx Bd.returns (hb hby d21_6) hr
  · show Q22 Z a1 21 h0 n0 _ T3.heap _
    exact ⟨rfl, N3, Qq⟩
set_option maxRecDepth 65536 in
set_option maxHeartbeats 40000000 in
theorem r20_21 (l : Launch) (Z : State) (a0 : Array Value) (hw : ∀ d ∈ tables_1, d.before a0 Z = true) (ws : List Jvm.Cond) (a1 : Addr) (tb : Addr) (h0 : Heap) (n0 : Nat) (Z0 : n0 ≤ h0.size) (SB : own_SBv Z h0 a1 21 34 tb) (CS : own_CS Z h0) :
    MetFree l (⟨"java/lang/StringBuilder", "toString", "()Ljava/lang/String;"⟩ : MethodName) (head1 (Jvm.Cond.code (⟨"java/lang/StringBuilder", "toString", "()Ljava/lang/String;"⟩ : MethodName) jdk_67_method_42_code 1 (some (.object "java/lang/String")) :: ws) ({ frames := 5, cells := 2, slots := 25, locals := 80 } : Room)) (fun a U => a = #[(.ref a1)] ∧ Z.Warmed39 U.vm ∧ U.heap = h0) (fun _ _ _ _ _ => True) (fun _ U o U' => ∃ v L, o = .returned v ∧ Q20 Z 21 h0 n0 v U'.heap L ∧ FrameEnd U o U' L ({ frames := 5, cells := 2, slots := 25, locals := 80 } : Room).cells ({ frames := 5, cells := 2, slots := 25, locals := 80 } : Room).slots) := by
  refine MetFree.of_bodySF (plainFor_of_name pn_20) hisR ?_
  intro p e s m args below meth c s₁ Bd hml0 hP hK
  obtain ⟨rfl, hZ, hh⟩ := hP
  have hx := Bd.exec
  have hby := Bd.bytes
  have hml : c.maxLocals = 1 := hml0
  have hown : s.vm.findClass "java/lang/StringBuilder" = some m.cls := findClass_of_methodNamed Bd.named
  have hnm := (name_of_methodNamed Bd.named Bd.method).1
  have X0 : Stand p l e ({ frames := 5, cells := 2, slots := 25, locals := 80 } : Room) s m #[(.ref a1)] below meth c s₁ [] 0 0 := Stand.of_body Bd
  have e0 : s₁.heap = h0 := by rw [← hh, Bd.state]; rfl
  have N0 := Fr.nil n0
  have pre0 : ∀ t, Steps p.tables e below (s₁.setTop (mkF m 0 #[.val (.ref a1)] [])) t → Steps p.tables e below (s₁.setTop (entryFrame m #[(.ref a1)] 1)) t := fun t k => castTop (ef_20 m a1) k
  obtain ⟨T2, h2, X2, e2, E2, A2, D2, -, st2⟩ := newO X0 hx hZ hown (hw _ (List.mem_of_getElem? (i := 126) rfl)) (hw _ (List.mem_of_getElem? (i := 25) rfl)) (hw _ (List.mem_of_getElem? (i := 24) rfl)) e0 (g := (mkF m 0 #[.val (.ref a1)] [])) rfl (hb hby d20_0) (by decide) (by decide)
  obtain ⟨b2, g2⟩ : ∃ z, z = h0.size := ⟨_, rfl⟩
  rw [← g2] at A2 D2 st2
  have F_value_b2 : Fld Z h2 b2 "java/lang/String" "value" "[B" .null := D2 (Or.inr (hw _ (List.mem_of_getElem? (i := 27) rfl))) (ty := (.array .byte)) (by decide)
  have F_coder_b2 : Fld Z h2 b2 "java/lang/String" "coder" "B" (.int (0 : Int32)) := D2 (Or.inr (hw _ (List.mem_of_getElem? (i := 28) rfl))) (ty := .byte) (by decide)
  have E_b2 := A2
  have g_b2 : n0 ≤ b2 := Nat.le_trans Z0 (Nat.le_of_eq g2.symm)
  have sz_b2 : h0.size ≤ b2 := (Nat.le_trans (Keep.refl h0 []).1 (Nat.le_of_eq g2.symm))
  have K2 : Keep h0 h2 [] := (Keep.refl h0 []).ext E2
  obtain ⟨_, _, ⟨T3, L3, k3, n3⟩, -, X3, ⟨Lc3, hQ3, l3, y3, z3⟩, st3⟩ := X2.specialBack hx (y := (⟨"java/lang/String", "<init>", "(Ljava/lang/StringBuilder;)V"⟩ : MethodName)) rfl hown (mvT hZ (hw _ (List.mem_of_getElem? (i := 127) rfl))) (mvT hZ (hw _ (List.mem_of_getElem? (i := 128) rfl))) (mvT hZ (hw _ (List.mem_of_getElem? (i := 130) rfl))) (by decide) (backOf (W := 1) (r21_21 l Z a0 hw [] b2 a1 tb _ _ h2 n0 (Nat.le_trans Z0 E2.1) (SB.keep0 K2) E_b2 F_coder_b2 g_b2 F_value_b2 (CS.ext E2)) hZ (hw _ (List.mem_of_getElem? (i := 130) rfl)) (hw _ (List.mem_of_getElem? (i := 24) rfl)) (by decide) (by decide)) (g := (mkF m 5 #[.val (.ref a1)] [(.ref a1), (.ref b2), (.ref b2)])) rfl (by rw [hml]; rfl) (Steps.refl _) (a := b2) (argsL := [(.ref a1)]) (rest := [(.ref b2)]) (lenOf pd_20_17 rfl) rfl (by show 2 * 0 + _ ≤ _; exact Nat.le_of_eq rfl) (hb hby d20_5) (fun _ _ => ⟨rfl, e2, (by decide : 1 + 1 ≤ _), (by decide : 4 + 21 ≤ _)⟩)
  dsimp only [Pt.U, Pt.locs, Pt.cells, Pt.slots] at X3 l3 y3 z3 st3 hQ3
  subst l3 y3 z3
  obtain ⟨rfl, N3q, K3, S3⟩ := hQ3
  have N3 := Fr.app N0 N3q
  obtain ⟨fs, hr, hrun, hended, hW, hsame⟩ := X3.leave (v := some (.ref b2)) (fun h => by rw [Bd.returns] at h; cases h)
  refine ⟨_, _, pre0 _ ?_, hrun, hended, _, _, rfl, ?_, ⟨_, rfl⟩, hW, hsame.mono (by decide) (by decide)⟩
  · show Steps p.tables e below (s₁.setTop (mkF m 0 #[.val (.ref a1)] [])) _
    refine st2 _ ?_
    show Steps p.tables e below (T2.setTop (mkF m 3 #[.val (.ref a1)] [(.ref b2)])) _
    refine XS.dup X2.here hx rfl (hb hby d20_3) rfl rfl ?_
    show Steps p.tables e below (T2.setTop (mkF m 4 #[.val (.ref a1)] [(.ref b2), (.ref b2)])) _
    refine XS.aloadN X2.here hx rfl (hb hby d20_4) rfl rfl ?_
    show Steps p.tables e below (T2.setTop (mkF m 5 #[.val (.ref a1)] [(.ref a1), (.ref b2), (.ref b2)])) _
    refine st3.trans ?_
    show Steps p.tables e below (T3.setTop (mkF m 8 #[.val (.ref a1)] [(.ref b2)])) _
    jvm_step X3.here [X3.here.top, hx, (hb hby d20_8), X3.method', Bd.returns, Value.isRef, FieldType.isReference]
    first | (intro acts; rw [hr _ acts rfl rfl rfl]) | rw [hr _ _ rfl rfl rfl]
    exact Steps.refl _
  · show Q20 Z 21 h0 n0 _ T3.heap _
    subst g2
    exact ⟨rfl, N3, K2.trans K3 (allS (Or.inr sz_b2) all0), S3⟩
def own_hf (n : Int32) : UInt64 := FP.ddiv (FP.i2d n) (4611686018427387904 : UInt64)
def own_K : Int := Jvm.FP.Core.zval Jvm.FP.Core.b64 (Jvm.FP.Core.val64 (own_hf 1))
def own_ok (i : Int) : Bool := decide (Jvm.FP.Core.val64 (own_hf (Int32.ofInt i)) ≠ .nan) && decide (Jvm.FP.Core.zval Jvm.FP.Core.b64 (Jvm.FP.Core.val64 (own_hf (Int32.ofInt i))) = i * own_K)
theorem own_ok_all : ∀ k : Fin 1443, own_ok ((k.val : Int) - 721) = true := by decide +kernel
theorem own_Kp : 0 < own_K := by decide +kernel
def own_Rg (n : Int32) : Prop := -721 ≤ n.toInt ∧ n.toInt ≤ 721
theorem own_half (n : Int32) (h : own_Rg n) : Jvm.FP.Core.val64 (own_hf n) ≠ .nan ∧ Jvm.FP.Core.zval Jvm.FP.Core.b64 (Jvm.FP.Core.val64 (own_hf n)) = n.toInt * own_K := by
  have q := own_ok_all ⟨(n.toInt + 721).toNat, by have := h.1; have := h.2; omega⟩
  have e : (((n.toInt + 721).toNat : Nat) : Int) - 721 = n.toInt := by have := h.1; omega
  unfold own_ok at q
  rw [show ((⟨(n.toInt + 721).toNat, _⟩ : Fin 1443).val : Int) - 721 = n.toInt from e, Int32.ofInt_toInt] at q
  simp only [Bool.and_eq_true, decide_eq_true_eq] at q
  exact q
def own_ci (n m : Int32) : Int32 := if n < m then -1 else if n = m then 0 else 1
theorem own_hcmp (n m : Int32) (hn : own_Rg n) (hm : own_Rg m) (op : CmpOp) : cmpValue (FP.dcmp (own_hf n) (own_hf m)) op = own_ci n m := by
  obtain ⟨n1, z1⟩ := own_half n hn
  obtain ⟨n2, z2⟩ := own_half m hm
  rw [own_cmp n1 n2, z1, z2]
  have hK := own_Kp
  unfold own_ci
  by_cases h1 : n < m
  · rw [if_pos h1]
    rw [Int32.lt_iff_toInt_lt] at h1
    have : compare (n.toInt * own_K) (m.toInt * own_K) = .lt := Int.compare_eq_lt.mpr (Int.mul_lt_mul_of_pos_right h1 hK)
    rw [this]; cases op <;> rfl
  · rw [if_neg h1]
    rw [Int32.lt_iff_toInt_lt] at h1
    by_cases h2 : n = m
    · subst h2
      rw [if_pos rfl, show compare (n.toInt * own_K) (n.toInt * own_K) = .eq from Int.compare_eq_eq.mpr rfl]; cases op <;> rfl
    · rw [if_neg h2]
      have h3 : m.toInt < n.toInt := by
        have : n.toInt ≠ m.toInt := fun q => h2 (Int32.toInt_inj.mp q)
        omega
      have : compare (n.toInt * own_K) (m.toInt * own_K) = .gt := Int.compare_eq_gt.mpr (Int.mul_lt_mul_of_pos_right h3 hK)
      rw [this]; cases op <;> rfl
theorem own_ci_lt (n m : Int32) : own_ci n m < (0 : Int32) ↔ n < m := by
  unfold own_ci
  by_cases h1 : n < m
  · rw [if_pos h1]; exact ⟨fun _ => h1, fun _ => by decide⟩
  · rw [if_neg h1]
    by_cases h2 : n = m
    · rw [if_pos h2]; exact ⟨fun q => absurd q (by decide), fun q => absurd q h1⟩
    · rw [if_neg h2]; exact ⟨fun q => absurd q (by decide), fun q => absurd q h1⟩
theorem own_ci_gt (n m : Int32) : (0 : Int32) < own_ci n m ↔ m < n := by
  unfold own_ci
  by_cases h1 : n < m
  · rw [if_pos h1]; exact ⟨fun q => absurd q (by decide), fun q => absurd (Int32.lt_trans h1 q) (Int32.lt_irrefl)⟩
  · rw [if_neg h1]
    by_cases h2 : n = m
    · rw [if_pos h2]; exact ⟨fun q => absurd q (by decide), fun q => absurd (h2 ▸ q) (Int32.lt_irrefl)⟩
    · rw [if_neg h2]
      refine ⟨fun _ => ?_, fun _ => by decide⟩
      rw [Int32.lt_iff_toInt_lt] at h1 ⊢
      have : n.toInt ≠ m.toInt := fun q => h2 (Int32.toInt_inj.mp q)
      omega
theorem own_hc1 : own_hf (-180) = 13859405640767635456 := by decide +kernel
theorem own_hc2 : own_hf 180 = 4636033603912859648 := by decide +kernel
theorem own_hc3 : own_hf (-360) = 13863909240395005952 := by decide +kernel
theorem own_hc4 : own_hf 360 = 4640537203540230144 := by decide +kernel
theorem own_hnum (n : Int32) (h : own_Rg n) : FP.ddiv (FP.i2d n) (4611686018427387904 : UInt64) &&& 0x7fffffffffffffff ≤ 0x7ff0000000000000 := own_not_nan (own_half n h).1
theorem d30_0 : decode prog_49_method_7_code 0 = .ok (.dload_n 0, 1) := by decide +kernel
theorem d30_1 : decode prog_49_method_7_code 1 = .ok (.ldc2_w 73, 3) := by decide +kernel
theorem d30_4 : decode prog_49_method_7_code 4 = .ok (.dcmp .l, 1) := by decide +kernel
theorem d30_5 : decode prog_49_method_7_code 5 = .ok (.ifCond .lt 11, 3) := by decide +kernel
theorem d30_8 : decode prog_49_method_7_code 8 = .ok (.dload_n 0, 1) := by decide +kernel
theorem d30_9 : decode prog_49_method_7_code 9 = .ok (.ldc2_w 44, 3) := by decide +kernel
theorem d30_12 : decode prog_49_method_7_code 12 = .ok (.dcmp .g, 1) := by decide +kernel
theorem d30_13 : decode prog_49_method_7_code 13 = .ok (.ifCond .le 34, 3) := by decide +kernel
theorem d30_47 : decode prog_49_method_7_code 47 = .ok (.return_, 1) := by decide +kernel
theorem pn_30 : plainName "com/example/tidegrid/tidegrid/GreatCircle" = true := by first | (simp [plainName, overriddenIn]; done) | decide +kernel
theorem ef_30 (m : MethodId) (x0 : UInt64) (x1 : Addr) : entryFrame m #[(.double x0), (.ref x1)] 3 = mkF m 0 #[.val (.double x0), .second, .val (.ref x1)] [] := by first | (simp [entryFrame, mkF, argsToLocals, Value.category]; done) | rfl
set_option maxRecDepth 65536 in
set_option maxHeartbeats 40000000 in
theorem r30 (l : Launch) (Z : State) (a0 : Array Value) (hw : ∀ d ∈ tables_1, d.before a0 Z = true) (ws : List Jvm.Cond) (x : Int32) (a2 : Addr) (h0 : Heap) (n0 : Nat) (Z0 : n0 ≤ h0.size) (hR : own_Rg x) (hlo : ¬ x < (-180 : Int32)) (hhi : ¬ (180 : Int32) < x) :
    MetFree l (⟨"com/example/tidegrid/tidegrid/GreatCircle", "requireLatitude", "(DLjava/lang/String;)V"⟩ : MethodName) (head1 (Jvm.Cond.code (⟨"com/example/tidegrid/tidegrid/GreatCircle", "requireLatitude", "(DLjava/lang/String;)V"⟩ : MethodName) prog_49_method_7_code 3 none :: ws) ({ frames := 0, cells := 0, slots := 0, locals := 0 } : Room)) (fun a U => a = #[(.double (own_hf x)), (.ref a2)] ∧ Z.Warmed39 U.vm ∧ U.heap = h0) (fun _ _ _ _ _ => True) (fun _ U o U' => ∃ v L, o = .returned v ∧ QR none h0 n0 v U'.heap L ∧ FrameEnd U o U' L ({ frames := 0, cells := 0, slots := 0, locals := 0 } : Room).cells ({ frames := 0, cells := 0, slots := 0, locals := 0 } : Room).slots) := by
  refine MetFree.of_bodySF (plainFor_of_name pn_30) hisR ?_
  intro p e s m args below meth c s₁ Bd hml0 hP hK
  obtain ⟨rfl, hZ, hh⟩ := hP
  have hx := Bd.exec
  have hby := Bd.bytes
  have hml : c.maxLocals = 3 := hml0
  have hown : s.vm.findClass "com/example/tidegrid/tidegrid/GreatCircle" = some m.cls := findClass_of_methodNamed Bd.named
  have hnm := (name_of_methodNamed Bd.named Bd.method).1
  have X0 : Stand p l e ({ frames := 0, cells := 0, slots := 0, locals := 0 } : Room) s m #[(.double (own_hf x)), (.ref a2)] below meth c s₁ [] 0 0 := Stand.of_body Bd
  have e0 : s₁.heap = h0 := by rw [← hh, Bd.state]; rfl
  have N0 := Fr.nil n0
  have pre0 : ∀ t, Steps p.tables e below (s₁.setTop (mkF m 0 #[.val (.double (own_hf x)), .second, .val (.ref a2)] [])) t → Steps p.tables e below (s₁.setTop (entryFrame m #[(.double (own_hf x)), (.ref a2)] 3)) t := fun t k => castTop (ef_30 m (own_hf x) a2) k
  obtain ⟨fs, hr, hrun, hended, hW, hsame⟩ := X0.leave (v := none) (fun _ => rfl)
  refine ⟨_, _, pre0 _ ?_, hrun, hended, _, _, rfl, ?_, ⟨_, rfl⟩, hW, hsame.mono (by decide) (by decide)⟩
  · show Steps p.tables e below (s₁.setTop (mkF m 0 #[.val (.double (own_hf x)), .second, .val (.ref a2)] [])) _
    refine own_dloadN X0.here hx rfl (hb hby d30_0) rfl ?_
    show Steps p.tables e below (s₁.setTop (mkF m 1 #[.val (.double (own_hf x)), .second, .val (.ref a2)] [(.double (own_hf x))])) _
    refine X0.ldc2DoubleC hx hown (mvT hZ (hw _ (List.mem_of_getElem? (i := 166) rfl))) (g := (mkF m 1 #[.val (.double (own_hf x)), .second, .val (.ref a2)] [(.double (own_hf x))])) rfl (hb hby d30_1) _ ?_
    show Steps p.tables e below (s₁.setTop (mkF m 4 #[.val (.double (own_hf x)), .second, .val (.ref a2)] [(.double (13859405640767635456 : UInt64)), (.double (own_hf x))])) _
    refine own_dcmp X0.here hx rfl (hb hby d30_4) rfl (k := (own_ci x (-180 : Int32))) (by rw [← own_hc1]; exact own_hcmp x (-180) hR (by unfold own_Rg; decide) _) ?_
    show Steps p.tables e below (s₁.setTop (mkF m 5 #[.val (.double (own_hf x)), .second, .val (.ref a2)] [(.int (own_ci x (-180 : Int32)))])) _
    refine XS.ifNo X0.here hx rfl (hb hby d30_5) rfl ((if0 _ _).trans (flt ((fun q => hlo ((own_ci_lt _ _).mp q)) : ¬ ((own_ci x (-180 : Int32)) < (0 : Int32)))).1) ?_
    show Steps p.tables e below (s₁.setTop (mkF m 8 #[.val (.double (own_hf x)), .second, .val (.ref a2)] [])) _
    refine own_dloadN X0.here hx rfl (hb hby d30_8) rfl ?_
    show Steps p.tables e below (s₁.setTop (mkF m 9 #[.val (.double (own_hf x)), .second, .val (.ref a2)] [(.double (own_hf x))])) _
    refine X0.ldc2DoubleC hx hown (mvT hZ (hw _ (List.mem_of_getElem? (i := 167) rfl))) (g := (mkF m 9 #[.val (.double (own_hf x)), .second, .val (.ref a2)] [(.double (own_hf x))])) rfl (hb hby d30_9) _ ?_
    show Steps p.tables e below (s₁.setTop (mkF m 12 #[.val (.double (own_hf x)), .second, .val (.ref a2)] [(.double (4636033603912859648 : UInt64)), (.double (own_hf x))])) _
    refine own_dcmp X0.here hx rfl (hb hby d30_12) rfl (k := (own_ci x (180 : Int32))) (by rw [← own_hc2]; exact own_hcmp x (180) hR (by unfold own_Rg; decide) _) ?_
    show Steps p.tables e below (s₁.setTop (mkF m 13 #[.val (.double (own_hf x)), .second, .val (.ref a2)] [(.int (own_ci x (180 : Int32)))])) _
    refine XS.ifYes X0.here hx rfl (pc0 := 13) (pc' := 47) rfl (hb hby d30_13) rfl ((if0 _ _).trans (flt ((fun q => hhi ((own_ci_gt _ _).mp q)) : ¬ ((0 : Int32) < (own_ci x (180 : Int32))))).2.2.2) (by decide) (by decide) ?_
    show Steps p.tables e below (s₁.setTop (mkF m 47 #[.val (.double (own_hf x)), .second, .val (.ref a2)] [])) _
    exact X0.returnOut hx Bd.returns (hb hby d30_47) hr
  · show QR none h0 n0 _ s₁.heap _
    rw [e0]
    exact ⟨rfl, N0, rfl⟩
theorem d31_0 : decode prog_49_method_8_code 0 = .ok (.dload_n 0, 1) := by decide +kernel
theorem d31_1 : decode prog_49_method_8_code 1 = .ok (.ldc2_w 42, 3) := by decide +kernel
theorem d31_4 : decode prog_49_method_8_code 4 = .ok (.dcmp .l, 1) := by decide +kernel
theorem d31_5 : decode prog_49_method_8_code 5 = .ok (.ifCond .lt 11, 3) := by decide +kernel
theorem d31_8 : decode prog_49_method_8_code 8 = .ok (.dload_n 0, 1) := by decide +kernel
theorem d31_9 : decode prog_49_method_8_code 9 = .ok (.ldc2_w 38, 3) := by decide +kernel
theorem d31_12 : decode prog_49_method_8_code 12 = .ok (.dcmp .g, 1) := by decide +kernel
theorem d31_13 : decode prog_49_method_8_code 13 = .ok (.ifCond .le 34, 3) := by decide +kernel
theorem d31_47 : decode prog_49_method_8_code 47 = .ok (.return_, 1) := by decide +kernel
theorem pn_31 : plainName "com/example/tidegrid/tidegrid/GreatCircle" = true := by first | (simp [plainName, overriddenIn]; done) | decide +kernel
theorem ef_31 (m : MethodId) (x0 : UInt64) (x1 : Addr) : entryFrame m #[(.double x0), (.ref x1)] 3 = mkF m 0 #[.val (.double x0), .second, .val (.ref x1)] [] := by first | (simp [entryFrame, mkF, argsToLocals, Value.category]; done) | rfl
set_option maxRecDepth 65536 in
set_option maxHeartbeats 40000000 in
theorem r31 (l : Launch) (Z : State) (a0 : Array Value) (hw : ∀ d ∈ tables_1, d.before a0 Z = true) (ws : List Jvm.Cond) (x : Int32) (a2 : Addr) (h0 : Heap) (n0 : Nat) (Z0 : n0 ≤ h0.size) (hR : own_Rg x) (hlo : ¬ x < (-360 : Int32)) (hhi : ¬ (360 : Int32) < x) :
    MetFree l (⟨"com/example/tidegrid/tidegrid/GreatCircle", "requireLongitude", "(DLjava/lang/String;)V"⟩ : MethodName) (head1 (Jvm.Cond.code (⟨"com/example/tidegrid/tidegrid/GreatCircle", "requireLongitude", "(DLjava/lang/String;)V"⟩ : MethodName) prog_49_method_8_code 3 none :: ws) ({ frames := 0, cells := 0, slots := 0, locals := 0 } : Room)) (fun a U => a = #[(.double (own_hf x)), (.ref a2)] ∧ Z.Warmed39 U.vm ∧ U.heap = h0) (fun _ _ _ _ _ => True) (fun _ U o U' => ∃ v L, o = .returned v ∧ QR none h0 n0 v U'.heap L ∧ FrameEnd U o U' L ({ frames := 0, cells := 0, slots := 0, locals := 0 } : Room).cells ({ frames := 0, cells := 0, slots := 0, locals := 0 } : Room).slots) := by
  refine MetFree.of_bodySF (plainFor_of_name pn_31) hisR ?_
  intro p e s m args below meth c s₁ Bd hml0 hP hK
  obtain ⟨rfl, hZ, hh⟩ := hP
  have hx := Bd.exec
  have hby := Bd.bytes
  have hml : c.maxLocals = 3 := hml0
  have hown : s.vm.findClass "com/example/tidegrid/tidegrid/GreatCircle" = some m.cls := findClass_of_methodNamed Bd.named
  have hnm := (name_of_methodNamed Bd.named Bd.method).1
  have X0 : Stand p l e ({ frames := 0, cells := 0, slots := 0, locals := 0 } : Room) s m #[(.double (own_hf x)), (.ref a2)] below meth c s₁ [] 0 0 := Stand.of_body Bd
  have e0 : s₁.heap = h0 := by rw [← hh, Bd.state]; rfl
  have N0 := Fr.nil n0
  have pre0 : ∀ t, Steps p.tables e below (s₁.setTop (mkF m 0 #[.val (.double (own_hf x)), .second, .val (.ref a2)] [])) t → Steps p.tables e below (s₁.setTop (entryFrame m #[(.double (own_hf x)), (.ref a2)] 3)) t := fun t k => castTop (ef_31 m (own_hf x) a2) k
  obtain ⟨fs, hr, hrun, hended, hW, hsame⟩ := X0.leave (v := none) (fun _ => rfl)
  refine ⟨_, _, pre0 _ ?_, hrun, hended, _, _, rfl, ?_, ⟨_, rfl⟩, hW, hsame.mono (by decide) (by decide)⟩
  · show Steps p.tables e below (s₁.setTop (mkF m 0 #[.val (.double (own_hf x)), .second, .val (.ref a2)] [])) _
    refine own_dloadN X0.here hx rfl (hb hby d31_0) rfl ?_
    show Steps p.tables e below (s₁.setTop (mkF m 1 #[.val (.double (own_hf x)), .second, .val (.ref a2)] [(.double (own_hf x))])) _
    refine X0.ldc2DoubleC hx hown (mvT hZ (hw _ (List.mem_of_getElem? (i := 172) rfl))) (g := (mkF m 1 #[.val (.double (own_hf x)), .second, .val (.ref a2)] [(.double (own_hf x))])) rfl (hb hby d31_1) _ ?_
    show Steps p.tables e below (s₁.setTop (mkF m 4 #[.val (.double (own_hf x)), .second, .val (.ref a2)] [(.double (13863909240395005952 : UInt64)), (.double (own_hf x))])) _
    refine own_dcmp X0.here hx rfl (hb hby d31_4) rfl (k := (own_ci x (-360 : Int32))) (by rw [← own_hc3]; exact own_hcmp x (-360) hR (by unfold own_Rg; decide) _) ?_
    show Steps p.tables e below (s₁.setTop (mkF m 5 #[.val (.double (own_hf x)), .second, .val (.ref a2)] [(.int (own_ci x (-360 : Int32)))])) _
    refine XS.ifNo X0.here hx rfl (hb hby d31_5) rfl ((if0 _ _).trans (flt ((fun q => hlo ((own_ci_lt _ _).mp q)) : ¬ ((own_ci x (-360 : Int32)) < (0 : Int32)))).1) ?_
    show Steps p.tables e below (s₁.setTop (mkF m 8 #[.val (.double (own_hf x)), .second, .val (.ref a2)] [])) _
    refine own_dloadN X0.here hx rfl (hb hby d31_8) rfl ?_
    show Steps p.tables e below (s₁.setTop (mkF m 9 #[.val (.double (own_hf x)), .second, .val (.ref a2)] [(.double (own_hf x))])) _
    refine X0.ldc2DoubleC hx hown (mvT hZ (hw _ (List.mem_of_getElem? (i := 173) rfl))) (g := (mkF m 9 #[.val (.double (own_hf x)), .second, .val (.ref a2)] [(.double (own_hf x))])) rfl (hb hby d31_9) _ ?_
    show Steps p.tables e below (s₁.setTop (mkF m 12 #[.val (.double (own_hf x)), .second, .val (.ref a2)] [(.double (4640537203540230144 : UInt64)), (.double (own_hf x))])) _
    refine own_dcmp X0.here hx rfl (hb hby d31_12) rfl (k := (own_ci x (360 : Int32))) (by rw [← own_hc4]; exact own_hcmp x (360) hR (by unfold own_Rg; decide) _) ?_
    show Steps p.tables e below (s₁.setTop (mkF m 13 #[.val (.double (own_hf x)), .second, .val (.ref a2)] [(.int (own_ci x (360 : Int32)))])) _
    refine XS.ifYes X0.here hx rfl (pc0 := 13) (pc' := 47) rfl (hb hby d31_13) rfl ((if0 _ _).trans (flt ((fun q => hhi ((own_ci_gt _ _).mp q)) : ¬ ((0 : Int32) < (own_ci x (360 : Int32))))).2.2.2) (by decide) (by decide) ?_
    show Steps p.tables e below (s₁.setTop (mkF m 47 #[.val (.double (own_hf x)), .second, .val (.ref a2)] [])) _
    exact X0.returnOut hx Bd.returns (hb hby d31_47) hr
  · show QR none h0 n0 _ s₁.heap _
    rw [e0]
    exact ⟨rfl, N0, rfl⟩
theorem d32_0 : decode prog_17_method_3_code 0 = .ok (.dload_n 1, 1) := by decide +kernel
theorem d32_1 : decode prog_17_method_3_code 1 = .ok (.aload_n 0, 1) := by decide +kernel
theorem d32_2 : decode prog_17_method_3_code 2 = .ok (.getfield 15, 3) := by decide +kernel
theorem d32_5 : decode prog_17_method_3_code 5 = .ok (.dcmp .l, 1) := by decide +kernel
theorem d32_6 : decode prog_17_method_3_code 6 = .ok (.ifCond .lt 34, 3) := by decide +kernel
theorem d32_40 : decode prog_17_method_3_code 40 = .ok (.iconst 0, 1) := by decide +kernel
theorem d32_41 : decode prog_17_method_3_code 41 = .ok (.ireturn, 1) := by decide +kernel
theorem pn_32 : plainName "com/example/tidegrid/tidegrid/Box" = true := by first | (simp [plainName, overriddenIn]; done) | decide +kernel
theorem ef_32 (m : MethodId) (x0 : Addr) (x1 : UInt64) (x2 : UInt64) : entryFrame m #[(.ref x0), (.double x1), (.double x2)] 5 = mkF m 0 #[.val (.ref x0), .val (.double x1), .second, .val (.double x2), .second] [] := by first | (simp [entryFrame, mkF, argsToLocals, Value.category]; done) | rfl
set_option maxRecDepth 65536 in
set_option maxHeartbeats 40000000 in
theorem r32a (l : Launch) (Z : State) (a0 : Array Value) (hw : ∀ d ∈ tables_1, d.before a0 Z = true) (ws : List Jvm.Cond) (a1 : Addr) (x1 x2 y1 y2 y3 y4 : Int32) (h0 : Heap) (n0 : Nat) (Z0 : n0 ≤ h0.size) (F_minLat_a1 : Fld Z h0 a1 "com/example/tidegrid/tidegrid/Box" "minLat" "D" (.double (own_hf y1))) (F_maxLat_a1 : Fld Z h0 a1 "com/example/tidegrid/tidegrid/Box" "maxLat" "D" (.double (own_hf y2))) (F_minLon_a1 : Fld Z h0 a1 "com/example/tidegrid/tidegrid/Box" "minLon" "D" (.double (own_hf y3))) (F_maxLon_a1 : Fld Z h0 a1 "com/example/tidegrid/tidegrid/Box" "maxLon" "D" (.double (own_hf y4))) (Rx1 : own_Rg x1) (Rx2 : own_Rg x2) (Ry1 : own_Rg y1) (Ry2 : own_Rg y2) (Ry3 : own_Rg y3) (Ry4 : own_Rg y4)  (hq0 : x1 < y1) :
    MetFree l (⟨"com/example/tidegrid/tidegrid/Box", "contains", "(DD)Z"⟩ : MethodName) (head1 (Jvm.Cond.code (⟨"com/example/tidegrid/tidegrid/Box", "contains", "(DD)Z"⟩ : MethodName) prog_17_method_3_code 5 (some .boolean) :: ws) ({ frames := 0, cells := 0, slots := 0, locals := 0 } : Room)) (fun a U => a = #[(.ref a1), (.double (own_hf x1)), (.double (own_hf x2))] ∧ Z.Warmed39 U.vm ∧ U.heap = h0) (fun _ _ _ _ _ => True) (fun _ U o U' => ∃ v L, o = .returned v ∧ QR (some (.int (0 : Int32))) h0 n0 v U'.heap L ∧ FrameEnd U o U' L ({ frames := 0, cells := 0, slots := 0, locals := 0 } : Room).cells ({ frames := 0, cells := 0, slots := 0, locals := 0 } : Room).slots) := by
  refine MetFree.of_bodySF (plainFor_of_name pn_32) hisR ?_
  intro p e s m args below meth c s₁ Bd hml0 hP hK
  obtain ⟨rfl, hZ, hh⟩ := hP
  have hx := Bd.exec
  have hby := Bd.bytes
  have hml : c.maxLocals = 5 := hml0
  have hown : s.vm.findClass "com/example/tidegrid/tidegrid/Box" = some m.cls := findClass_of_methodNamed Bd.named
  have hnm := (name_of_methodNamed Bd.named Bd.method).1
  have X0 : Stand p l e ({ frames := 0, cells := 0, slots := 0, locals := 0 } : Room) s m #[(.ref a1), (.double (own_hf x1)), (.double (own_hf x2))] below meth c s₁ [] 0 0 := Stand.of_body Bd
  have e0 : s₁.heap = h0 := by rw [← hh, Bd.state]; rfl
  have N0 := Fr.nil n0
  have pre0 : ∀ t, Steps p.tables e below (s₁.setTop (mkF m 0 #[.val (.ref a1), .val (.double (own_hf x1)), .second, .val (.double (own_hf x2)), .second] [])) t → Steps p.tables e below (s₁.setTop (entryFrame m #[(.ref a1), (.double (own_hf x1)), (.double (own_hf x2))] 5)) t := fun t k => castTop (ef_32 m a1 (own_hf x1) (own_hf x2)) k
  obtain ⟨T5, X5, e5, st5⟩ := getF X0 hx hZ hown (host := "") (Or.inl (hw _ (List.mem_of_getElem? (i := 176) rfl))) Via.refl e0 F_minLat_a1 (g := (mkF m 2 #[.val (.ref a1), .val (.double (own_hf x1)), .second, .val (.double (own_hf x2)), .second] [(.ref a1), (.double (own_hf x1))])) rfl rfl (hb hby d32_2)
  obtain ⟨fs, hr, hrun, hended, hW, hsame⟩ := X5.leave (v := some (.int (0 : Int32))) (fun h => by rw [Bd.returns] at h; cases h)
  refine ⟨_, _, pre0 _ ?_, hrun, hended, _, _, rfl, ?_, ⟨_, rfl⟩, hW, hsame.mono (by decide) (by decide)⟩
  · show Steps p.tables e below (s₁.setTop (mkF m 0 #[.val (.ref a1), .val (.double (own_hf x1)), .second, .val (.double (own_hf x2)), .second] [])) _
    refine own_dloadN X0.here hx rfl (hb hby d32_0) rfl ?_
    show Steps p.tables e below (s₁.setTop (mkF m 1 #[.val (.ref a1), .val (.double (own_hf x1)), .second, .val (.double (own_hf x2)), .second] [(.double (own_hf x1))])) _
    refine XS.aloadN X0.here hx rfl (hb hby d32_1) rfl rfl ?_
    show Steps p.tables e below (s₁.setTop (mkF m 2 #[.val (.ref a1), .val (.double (own_hf x1)), .second, .val (.double (own_hf x2)), .second] [(.ref a1), (.double (own_hf x1))])) _
    refine st5 _ ?_
    show Steps p.tables e below (T5.setTop (mkF m 5 #[.val (.ref a1), .val (.double (own_hf x1)), .second, .val (.double (own_hf x2)), .second] [(.double (own_hf y1)), (.double (own_hf x1))])) _
    refine own_dcmp X5.here hx rfl (hb hby d32_5) rfl (k := (own_ci x1 y1)) (own_hcmp x1 y1 Rx1 Ry1 _) ?_
    show Steps p.tables e below (T5.setTop (mkF m 6 #[.val (.ref a1), .val (.double (own_hf x1)), .second, .val (.double (own_hf x2)), .second] [(.int (own_ci x1 y1))])) _
    refine XS.ifYes X5.here hx rfl (pc0 := 6) (pc' := 40) rfl (hb hby d32_6) rfl ((if0 _ _).trans (tlt (((own_ci_lt _ _).mpr hq0) : (own_ci x1 y1) < (0 : Int32))).1) (by decide) (by decide) ?_
    show Steps p.tables e below (T5.setTop (mkF m 40 #[.val (.ref a1), .val (.double (own_hf x1)), .second, .val (.double (own_hf x2)), .second] [])) _
    refine XS.iconst X5.here hx rfl (hb hby d32_40) ?_
    show Steps p.tables e below (T5.setTop (mkF m 41 #[.val (.ref a1), .val (.double (own_hf x1)), .second, .val (.double (own_hf x2)), .second] [(.int (0 : Int32))])) _
    exact retN X5 hx (t := .boolean) Bd.returns (by simp) (hb hby d32_41) hr
  · show QR (some (.int (0 : Int32))) h0 n0 _ T5.heap _
    rw [e5]
    exact ⟨rfl, N0, rfl⟩
theorem d32_9 : decode prog_17_method_3_code 9 = .ok (.dload_n 1, 1) := by decide +kernel
theorem d32_10 : decode prog_17_method_3_code 10 = .ok (.aload_n 0, 1) := by decide +kernel
theorem d32_11 : decode prog_17_method_3_code 11 = .ok (.getfield 22, 3) := by decide +kernel
theorem d32_14 : decode prog_17_method_3_code 14 = .ok (.dcmp .g, 1) := by decide +kernel
theorem d32_15 : decode prog_17_method_3_code 15 = .ok (.ifCond .gt 25, 3) := by decide +kernel
set_option maxRecDepth 65536 in
set_option maxHeartbeats 40000000 in
theorem r32b (l : Launch) (Z : State) (a0 : Array Value) (hw : ∀ d ∈ tables_1, d.before a0 Z = true) (ws : List Jvm.Cond) (a1 : Addr) (x1 x2 y1 y2 y3 y4 : Int32) (h0 : Heap) (n0 : Nat) (Z0 : n0 ≤ h0.size) (F_minLat_a1 : Fld Z h0 a1 "com/example/tidegrid/tidegrid/Box" "minLat" "D" (.double (own_hf y1))) (F_maxLat_a1 : Fld Z h0 a1 "com/example/tidegrid/tidegrid/Box" "maxLat" "D" (.double (own_hf y2))) (F_minLon_a1 : Fld Z h0 a1 "com/example/tidegrid/tidegrid/Box" "minLon" "D" (.double (own_hf y3))) (F_maxLon_a1 : Fld Z h0 a1 "com/example/tidegrid/tidegrid/Box" "maxLon" "D" (.double (own_hf y4))) (Rx1 : own_Rg x1) (Rx2 : own_Rg x2) (Ry1 : own_Rg y1) (Ry2 : own_Rg y2) (Ry3 : own_Rg y3) (Ry4 : own_Rg y4) (hq0 : ¬ x1 < y1) (hq1 : y2 < x1) :
    MetFree l (⟨"com/example/tidegrid/tidegrid/Box", "contains", "(DD)Z"⟩ : MethodName) (head1 (Jvm.Cond.code (⟨"com/example/tidegrid/tidegrid/Box", "contains", "(DD)Z"⟩ : MethodName) prog_17_method_3_code 5 (some .boolean) :: ws) ({ frames := 0, cells := 0, slots := 0, locals := 0 } : Room)) (fun a U => a = #[(.ref a1), (.double (own_hf x1)), (.double (own_hf x2))] ∧ Z.Warmed39 U.vm ∧ U.heap = h0) (fun _ _ _ _ _ => True) (fun _ U o U' => ∃ v L, o = .returned v ∧ QR (some (.int (0 : Int32))) h0 n0 v U'.heap L ∧ FrameEnd U o U' L ({ frames := 0, cells := 0, slots := 0, locals := 0 } : Room).cells ({ frames := 0, cells := 0, slots := 0, locals := 0 } : Room).slots) := by
  refine MetFree.of_bodySF (plainFor_of_name pn_32) hisR ?_
  intro p e s m args below meth c s₁ Bd hml0 hP hK
  obtain ⟨rfl, hZ, hh⟩ := hP
  have hx := Bd.exec
  have hby := Bd.bytes
  have hml : c.maxLocals = 5 := hml0
  have hown : s.vm.findClass "com/example/tidegrid/tidegrid/Box" = some m.cls := findClass_of_methodNamed Bd.named
  have hnm := (name_of_methodNamed Bd.named Bd.method).1
  have X0 : Stand p l e ({ frames := 0, cells := 0, slots := 0, locals := 0 } : Room) s m #[(.ref a1), (.double (own_hf x1)), (.double (own_hf x2))] below meth c s₁ [] 0 0 := Stand.of_body Bd
  have e0 : s₁.heap = h0 := by rw [← hh, Bd.state]; rfl
  have N0 := Fr.nil n0
  have pre0 : ∀ t, Steps p.tables e below (s₁.setTop (mkF m 0 #[.val (.ref a1), .val (.double (own_hf x1)), .second, .val (.double (own_hf x2)), .second] [])) t → Steps p.tables e below (s₁.setTop (entryFrame m #[(.ref a1), (.double (own_hf x1)), (.double (own_hf x2))] 5)) t := fun t k => castTop (ef_32 m a1 (own_hf x1) (own_hf x2)) k
  obtain ⟨T5, X5, e5, st5⟩ := getF X0 hx hZ hown (host := "") (Or.inl (hw _ (List.mem_of_getElem? (i := 176) rfl))) Via.refl e0 F_minLat_a1 (g := (mkF m 2 #[.val (.ref a1), .val (.double (own_hf x1)), .second, .val (.double (own_hf x2)), .second] [(.ref a1), (.double (own_hf x1))])) rfl rfl (hb hby d32_2)
  obtain ⟨T7, X7, e7, st7⟩ := getF X5 hx hZ hown (host := "") (Or.inl (hw _ (List.mem_of_getElem? (i := 180) rfl))) Via.refl e5 F_maxLat_a1 (g := (mkF m 11 #[.val (.ref a1), .val (.double (own_hf x1)), .second, .val (.double (own_hf x2)), .second] [(.ref a1), (.double (own_hf x1))])) rfl rfl (hb hby d32_11)
  obtain ⟨fs, hr, hrun, hended, hW, hsame⟩ := X7.leave (v := some (.int (0 : Int32))) (fun h => by rw [Bd.returns] at h; cases h)
  refine ⟨_, _, pre0 _ ?_, hrun, hended, _, _, rfl, ?_, ⟨_, rfl⟩, hW, hsame.mono (by decide) (by decide)⟩
  · show Steps p.tables e below (s₁.setTop (mkF m 0 #[.val (.ref a1), .val (.double (own_hf x1)), .second, .val (.double (own_hf x2)), .second] [])) _
    refine own_dloadN X0.here hx rfl (hb hby d32_0) rfl ?_
    show Steps p.tables e below (s₁.setTop (mkF m 1 #[.val (.ref a1), .val (.double (own_hf x1)), .second, .val (.double (own_hf x2)), .second] [(.double (own_hf x1))])) _
    refine XS.aloadN X0.here hx rfl (hb hby d32_1) rfl rfl ?_
    show Steps p.tables e below (s₁.setTop (mkF m 2 #[.val (.ref a1), .val (.double (own_hf x1)), .second, .val (.double (own_hf x2)), .second] [(.ref a1), (.double (own_hf x1))])) _
    refine st5 _ ?_
    show Steps p.tables e below (T5.setTop (mkF m 5 #[.val (.ref a1), .val (.double (own_hf x1)), .second, .val (.double (own_hf x2)), .second] [(.double (own_hf y1)), (.double (own_hf x1))])) _
    refine own_dcmp X5.here hx rfl (hb hby d32_5) rfl (k := (own_ci x1 y1)) (own_hcmp x1 y1 Rx1 Ry1 _) ?_
    show Steps p.tables e below (T5.setTop (mkF m 6 #[.val (.ref a1), .val (.double (own_hf x1)), .second, .val (.double (own_hf x2)), .second] [(.int (own_ci x1 y1))])) _
    refine XS.ifNo X5.here hx rfl (hb hby d32_6) rfl ((if0 _ _).trans (flt ((fun q => hq0 ((own_ci_lt _ _).mp q)) : ¬ ((own_ci x1 y1) < (0 : Int32)))).1) ?_
    show Steps p.tables e below (T5.setTop (mkF m 9 #[.val (.ref a1), .val (.double (own_hf x1)), .second, .val (.double (own_hf x2)), .second] [])) _
    refine own_dloadN X5.here hx rfl (hb hby d32_9) rfl ?_
    show Steps p.tables e below (T5.setTop (mkF m 10 #[.val (.ref a1), .val (.double (own_hf x1)), .second, .val (.double (own_hf x2)), .second] [(.double (own_hf x1))])) _
    refine XS.aloadN X5.here hx rfl (hb hby d32_10) rfl rfl ?_
    show Steps p.tables e below (T5.setTop (mkF m 11 #[.val (.ref a1), .val (.double (own_hf x1)), .second, .val (.double (own_hf x2)), .second] [(.ref a1), (.double (own_hf x1))])) _
    refine st7 _ ?_
    show Steps p.tables e below (T7.setTop (mkF m 14 #[.val (.ref a1), .val (.double (own_hf x1)), .second, .val (.double (own_hf x2)), .second] [(.double (own_hf y2)), (.double (own_hf x1))])) _
    refine own_dcmp X7.here hx rfl (hb hby d32_14) rfl (k := (own_ci x1 y2)) (own_hcmp x1 y2 Rx1 Ry2 _) ?_
    show Steps p.tables e below (T7.setTop (mkF m 15 #[.val (.ref a1), .val (.double (own_hf x1)), .second, .val (.double (own_hf x2)), .second] [(.int (own_ci x1 y2))])) _
    refine XS.ifYes X7.here hx rfl (pc0 := 15) (pc' := 40) rfl (hb hby d32_15) rfl ((if0 _ _).trans (tlt (((own_ci_gt _ _).mpr hq1) : (0 : Int32) < (own_ci x1 y2))).2.2.1) (by decide) (by decide) ?_
    show Steps p.tables e below (T7.setTop (mkF m 40 #[.val (.ref a1), .val (.double (own_hf x1)), .second, .val (.double (own_hf x2)), .second] [])) _
    refine XS.iconst X7.here hx rfl (hb hby d32_40) ?_
    show Steps p.tables e below (T7.setTop (mkF m 41 #[.val (.ref a1), .val (.double (own_hf x1)), .second, .val (.double (own_hf x2)), .second] [(.int (0 : Int32))])) _
    exact retN X7 hx (t := .boolean) Bd.returns (by simp) (hb hby d32_41) hr
  · show QR (some (.int (0 : Int32))) h0 n0 _ T7.heap _
    rw [e7]
    exact ⟨rfl, N0, rfl⟩
theorem d32_18 : decode prog_17_method_3_code 18 = .ok (.dload_n 3, 1) := by decide +kernel
theorem d32_19 : decode prog_17_method_3_code 19 = .ok (.aload_n 0, 1) := by decide +kernel
theorem d32_20 : decode prog_17_method_3_code 20 = .ok (.getfield 19, 3) := by decide +kernel
theorem d32_23 : decode prog_17_method_3_code 23 = .ok (.dcmp .l, 1) := by decide +kernel
theorem d32_24 : decode prog_17_method_3_code 24 = .ok (.ifCond .lt 16, 3) := by decide +kernel
set_option maxRecDepth 65536 in
set_option maxHeartbeats 40000000 in
theorem r32c (l : Launch) (Z : State) (a0 : Array Value) (hw : ∀ d ∈ tables_1, d.before a0 Z = true) (ws : List Jvm.Cond) (a1 : Addr) (x1 x2 y1 y2 y3 y4 : Int32) (h0 : Heap) (n0 : Nat) (Z0 : n0 ≤ h0.size) (F_minLat_a1 : Fld Z h0 a1 "com/example/tidegrid/tidegrid/Box" "minLat" "D" (.double (own_hf y1))) (F_maxLat_a1 : Fld Z h0 a1 "com/example/tidegrid/tidegrid/Box" "maxLat" "D" (.double (own_hf y2))) (F_minLon_a1 : Fld Z h0 a1 "com/example/tidegrid/tidegrid/Box" "minLon" "D" (.double (own_hf y3))) (F_maxLon_a1 : Fld Z h0 a1 "com/example/tidegrid/tidegrid/Box" "maxLon" "D" (.double (own_hf y4))) (Rx1 : own_Rg x1) (Rx2 : own_Rg x2) (Ry1 : own_Rg y1) (Ry2 : own_Rg y2) (Ry3 : own_Rg y3) (Ry4 : own_Rg y4) (hq0 : ¬ x1 < y1) (hq1 : ¬ y2 < x1) (hq2 : x2 < y3) :
    MetFree l (⟨"com/example/tidegrid/tidegrid/Box", "contains", "(DD)Z"⟩ : MethodName) (head1 (Jvm.Cond.code (⟨"com/example/tidegrid/tidegrid/Box", "contains", "(DD)Z"⟩ : MethodName) prog_17_method_3_code 5 (some .boolean) :: ws) ({ frames := 0, cells := 0, slots := 0, locals := 0 } : Room)) (fun a U => a = #[(.ref a1), (.double (own_hf x1)), (.double (own_hf x2))] ∧ Z.Warmed39 U.vm ∧ U.heap = h0) (fun _ _ _ _ _ => True) (fun _ U o U' => ∃ v L, o = .returned v ∧ QR (some (.int (0 : Int32))) h0 n0 v U'.heap L ∧ FrameEnd U o U' L ({ frames := 0, cells := 0, slots := 0, locals := 0 } : Room).cells ({ frames := 0, cells := 0, slots := 0, locals := 0 } : Room).slots) := by
  refine MetFree.of_bodySF (plainFor_of_name pn_32) hisR ?_
  intro p e s m args below meth c s₁ Bd hml0 hP hK
  obtain ⟨rfl, hZ, hh⟩ := hP
  have hx := Bd.exec
  have hby := Bd.bytes
  have hml : c.maxLocals = 5 := hml0
  have hown : s.vm.findClass "com/example/tidegrid/tidegrid/Box" = some m.cls := findClass_of_methodNamed Bd.named
  have hnm := (name_of_methodNamed Bd.named Bd.method).1
  have X0 : Stand p l e ({ frames := 0, cells := 0, slots := 0, locals := 0 } : Room) s m #[(.ref a1), (.double (own_hf x1)), (.double (own_hf x2))] below meth c s₁ [] 0 0 := Stand.of_body Bd
  have e0 : s₁.heap = h0 := by rw [← hh, Bd.state]; rfl
  have N0 := Fr.nil n0
  have pre0 : ∀ t, Steps p.tables e below (s₁.setTop (mkF m 0 #[.val (.ref a1), .val (.double (own_hf x1)), .second, .val (.double (own_hf x2)), .second] [])) t → Steps p.tables e below (s₁.setTop (entryFrame m #[(.ref a1), (.double (own_hf x1)), (.double (own_hf x2))] 5)) t := fun t k => castTop (ef_32 m a1 (own_hf x1) (own_hf x2)) k
  obtain ⟨T5, X5, e5, st5⟩ := getF X0 hx hZ hown (host := "") (Or.inl (hw _ (List.mem_of_getElem? (i := 176) rfl))) Via.refl e0 F_minLat_a1 (g := (mkF m 2 #[.val (.ref a1), .val (.double (own_hf x1)), .second, .val (.double (own_hf x2)), .second] [(.ref a1), (.double (own_hf x1))])) rfl rfl (hb hby d32_2)
  obtain ⟨T7, X7, e7, st7⟩ := getF X5 hx hZ hown (host := "") (Or.inl (hw _ (List.mem_of_getElem? (i := 180) rfl))) Via.refl e5 F_maxLat_a1 (g := (mkF m 11 #[.val (.ref a1), .val (.double (own_hf x1)), .second, .val (.double (own_hf x2)), .second] [(.ref a1), (.double (own_hf x1))])) rfl rfl (hb hby d32_11)
  obtain ⟨T9, X9, e9, st9⟩ := getF X7 hx hZ hown (host := "") (Or.inl (hw _ (List.mem_of_getElem? (i := 178) rfl))) Via.refl e7 F_minLon_a1 (g := (mkF m 20 #[.val (.ref a1), .val (.double (own_hf x1)), .second, .val (.double (own_hf x2)), .second] [(.ref a1), (.double (own_hf x2))])) rfl rfl (hb hby d32_20)
  obtain ⟨fs, hr, hrun, hended, hW, hsame⟩ := X9.leave (v := some (.int (0 : Int32))) (fun h => by rw [Bd.returns] at h; cases h)
  refine ⟨_, _, pre0 _ ?_, hrun, hended, _, _, rfl, ?_, ⟨_, rfl⟩, hW, hsame.mono (by decide) (by decide)⟩
  · show Steps p.tables e below (s₁.setTop (mkF m 0 #[.val (.ref a1), .val (.double (own_hf x1)), .second, .val (.double (own_hf x2)), .second] [])) _
    refine own_dloadN X0.here hx rfl (hb hby d32_0) rfl ?_
    show Steps p.tables e below (s₁.setTop (mkF m 1 #[.val (.ref a1), .val (.double (own_hf x1)), .second, .val (.double (own_hf x2)), .second] [(.double (own_hf x1))])) _
    refine XS.aloadN X0.here hx rfl (hb hby d32_1) rfl rfl ?_
    show Steps p.tables e below (s₁.setTop (mkF m 2 #[.val (.ref a1), .val (.double (own_hf x1)), .second, .val (.double (own_hf x2)), .second] [(.ref a1), (.double (own_hf x1))])) _
    refine st5 _ ?_
    show Steps p.tables e below (T5.setTop (mkF m 5 #[.val (.ref a1), .val (.double (own_hf x1)), .second, .val (.double (own_hf x2)), .second] [(.double (own_hf y1)), (.double (own_hf x1))])) _
    refine own_dcmp X5.here hx rfl (hb hby d32_5) rfl (k := (own_ci x1 y1)) (own_hcmp x1 y1 Rx1 Ry1 _) ?_
    show Steps p.tables e below (T5.setTop (mkF m 6 #[.val (.ref a1), .val (.double (own_hf x1)), .second, .val (.double (own_hf x2)), .second] [(.int (own_ci x1 y1))])) _
    refine XS.ifNo X5.here hx rfl (hb hby d32_6) rfl ((if0 _ _).trans (flt ((fun q => hq0 ((own_ci_lt _ _).mp q)) : ¬ ((own_ci x1 y1) < (0 : Int32)))).1) ?_
    show Steps p.tables e below (T5.setTop (mkF m 9 #[.val (.ref a1), .val (.double (own_hf x1)), .second, .val (.double (own_hf x2)), .second] [])) _
    refine own_dloadN X5.here hx rfl (hb hby d32_9) rfl ?_
    show Steps p.tables e below (T5.setTop (mkF m 10 #[.val (.ref a1), .val (.double (own_hf x1)), .second, .val (.double (own_hf x2)), .second] [(.double (own_hf x1))])) _
    refine XS.aloadN X5.here hx rfl (hb hby d32_10) rfl rfl ?_
    show Steps p.tables e below (T5.setTop (mkF m 11 #[.val (.ref a1), .val (.double (own_hf x1)), .second, .val (.double (own_hf x2)), .second] [(.ref a1), (.double (own_hf x1))])) _
    refine st7 _ ?_
    show Steps p.tables e below (T7.setTop (mkF m 14 #[.val (.ref a1), .val (.double (own_hf x1)), .second, .val (.double (own_hf x2)), .second] [(.double (own_hf y2)), (.double (own_hf x1))])) _
    refine own_dcmp X7.here hx rfl (hb hby d32_14) rfl (k := (own_ci x1 y2)) (own_hcmp x1 y2 Rx1 Ry2 _) ?_
    show Steps p.tables e below (T7.setTop (mkF m 15 #[.val (.ref a1), .val (.double (own_hf x1)), .second, .val (.double (own_hf x2)), .second] [(.int (own_ci x1 y2))])) _
    refine XS.ifNo X7.here hx rfl (hb hby d32_15) rfl ((if0 _ _).trans (flt ((fun q => hq1 ((own_ci_gt _ _).mp q)) : ¬ ((0 : Int32) < (own_ci x1 y2)))).2.2.1) ?_
    show Steps p.tables e below (T7.setTop (mkF m 18 #[.val (.ref a1), .val (.double (own_hf x1)), .second, .val (.double (own_hf x2)), .second] [])) _
    refine own_dloadN X7.here hx rfl (hb hby d32_18) rfl ?_
    show Steps p.tables e below (T7.setTop (mkF m 19 #[.val (.ref a1), .val (.double (own_hf x1)), .second, .val (.double (own_hf x2)), .second] [(.double (own_hf x2))])) _
    refine XS.aloadN X7.here hx rfl (hb hby d32_19) rfl rfl ?_
    show Steps p.tables e below (T7.setTop (mkF m 20 #[.val (.ref a1), .val (.double (own_hf x1)), .second, .val (.double (own_hf x2)), .second] [(.ref a1), (.double (own_hf x2))])) _
    refine st9 _ ?_
    show Steps p.tables e below (T9.setTop (mkF m 23 #[.val (.ref a1), .val (.double (own_hf x1)), .second, .val (.double (own_hf x2)), .second] [(.double (own_hf y3)), (.double (own_hf x2))])) _
    refine own_dcmp X9.here hx rfl (hb hby d32_23) rfl (k := (own_ci x2 y3)) (own_hcmp x2 y3 Rx2 Ry3 _) ?_
    show Steps p.tables e below (T9.setTop (mkF m 24 #[.val (.ref a1), .val (.double (own_hf x1)), .second, .val (.double (own_hf x2)), .second] [(.int (own_ci x2 y3))])) _
    refine XS.ifYes X9.here hx rfl (pc0 := 24) (pc' := 40) rfl (hb hby d32_24) rfl ((if0 _ _).trans (tlt (((own_ci_lt _ _).mpr hq2) : (own_ci x2 y3) < (0 : Int32))).1) (by decide) (by decide) ?_
    show Steps p.tables e below (T9.setTop (mkF m 40 #[.val (.ref a1), .val (.double (own_hf x1)), .second, .val (.double (own_hf x2)), .second] [])) _
    refine XS.iconst X9.here hx rfl (hb hby d32_40) ?_
    show Steps p.tables e below (T9.setTop (mkF m 41 #[.val (.ref a1), .val (.double (own_hf x1)), .second, .val (.double (own_hf x2)), .second] [(.int (0 : Int32))])) _
    exact retN X9 hx (t := .boolean) Bd.returns (by simp) (hb hby d32_41) hr
  · show QR (some (.int (0 : Int32))) h0 n0 _ T9.heap _
    rw [e9]
    exact ⟨rfl, N0, rfl⟩
theorem d32_27 : decode prog_17_method_3_code 27 = .ok (.dload_n 3, 1) := by decide +kernel
theorem d32_28 : decode prog_17_method_3_code 28 = .ok (.aload_n 0, 1) := by decide +kernel
theorem d32_29 : decode prog_17_method_3_code 29 = .ok (.getfield 25, 3) := by decide +kernel
theorem d32_32 : decode prog_17_method_3_code 32 = .ok (.dcmp .g, 1) := by decide +kernel
theorem d32_33 : decode prog_17_method_3_code 33 = .ok (.ifCond .gt 7, 3) := by decide +kernel
set_option maxRecDepth 65536 in
set_option maxHeartbeats 40000000 in
theorem r32d (l : Launch) (Z : State) (a0 : Array Value) (hw : ∀ d ∈ tables_1, d.before a0 Z = true) (ws : List Jvm.Cond) (a1 : Addr) (x1 x2 y1 y2 y3 y4 : Int32) (h0 : Heap) (n0 : Nat) (Z0 : n0 ≤ h0.size) (F_minLat_a1 : Fld Z h0 a1 "com/example/tidegrid/tidegrid/Box" "minLat" "D" (.double (own_hf y1))) (F_maxLat_a1 : Fld Z h0 a1 "com/example/tidegrid/tidegrid/Box" "maxLat" "D" (.double (own_hf y2))) (F_minLon_a1 : Fld Z h0 a1 "com/example/tidegrid/tidegrid/Box" "minLon" "D" (.double (own_hf y3))) (F_maxLon_a1 : Fld Z h0 a1 "com/example/tidegrid/tidegrid/Box" "maxLon" "D" (.double (own_hf y4))) (Rx1 : own_Rg x1) (Rx2 : own_Rg x2) (Ry1 : own_Rg y1) (Ry2 : own_Rg y2) (Ry3 : own_Rg y3) (Ry4 : own_Rg y4) (hq0 : ¬ x1 < y1) (hq1 : ¬ y2 < x1) (hq2 : ¬ x2 < y3) (hq3 : y4 < x2) :
    MetFree l (⟨"com/example/tidegrid/tidegrid/Box", "contains", "(DD)Z"⟩ : MethodName) (head1 (Jvm.Cond.code (⟨"com/example/tidegrid/tidegrid/Box", "contains", "(DD)Z"⟩ : MethodName) prog_17_method_3_code 5 (some .boolean) :: ws) ({ frames := 0, cells := 0, slots := 0, locals := 0 } : Room)) (fun a U => a = #[(.ref a1), (.double (own_hf x1)), (.double (own_hf x2))] ∧ Z.Warmed39 U.vm ∧ U.heap = h0) (fun _ _ _ _ _ => True) (fun _ U o U' => ∃ v L, o = .returned v ∧ QR (some (.int (0 : Int32))) h0 n0 v U'.heap L ∧ FrameEnd U o U' L ({ frames := 0, cells := 0, slots := 0, locals := 0 } : Room).cells ({ frames := 0, cells := 0, slots := 0, locals := 0 } : Room).slots) := by
  refine MetFree.of_bodySF (plainFor_of_name pn_32) hisR ?_
  intro p e s m args below meth c s₁ Bd hml0 hP hK
  obtain ⟨rfl, hZ, hh⟩ := hP
  have hx := Bd.exec
  have hby := Bd.bytes
  have hml : c.maxLocals = 5 := hml0
  have hown : s.vm.findClass "com/example/tidegrid/tidegrid/Box" = some m.cls := findClass_of_methodNamed Bd.named
  have hnm := (name_of_methodNamed Bd.named Bd.method).1
  have X0 : Stand p l e ({ frames := 0, cells := 0, slots := 0, locals := 0 } : Room) s m #[(.ref a1), (.double (own_hf x1)), (.double (own_hf x2))] below meth c s₁ [] 0 0 := Stand.of_body Bd
  have e0 : s₁.heap = h0 := by rw [← hh, Bd.state]; rfl
  have N0 := Fr.nil n0
  have pre0 : ∀ t, Steps p.tables e below (s₁.setTop (mkF m 0 #[.val (.ref a1), .val (.double (own_hf x1)), .second, .val (.double (own_hf x2)), .second] [])) t → Steps p.tables e below (s₁.setTop (entryFrame m #[(.ref a1), (.double (own_hf x1)), (.double (own_hf x2))] 5)) t := fun t k => castTop (ef_32 m a1 (own_hf x1) (own_hf x2)) k
  obtain ⟨T5, X5, e5, st5⟩ := getF X0 hx hZ hown (host := "") (Or.inl (hw _ (List.mem_of_getElem? (i := 176) rfl))) Via.refl e0 F_minLat_a1 (g := (mkF m 2 #[.val (.ref a1), .val (.double (own_hf x1)), .second, .val (.double (own_hf x2)), .second] [(.ref a1), (.double (own_hf x1))])) rfl rfl (hb hby d32_2)
  obtain ⟨T7, X7, e7, st7⟩ := getF X5 hx hZ hown (host := "") (Or.inl (hw _ (List.mem_of_getElem? (i := 180) rfl))) Via.refl e5 F_maxLat_a1 (g := (mkF m 11 #[.val (.ref a1), .val (.double (own_hf x1)), .second, .val (.double (own_hf x2)), .second] [(.ref a1), (.double (own_hf x1))])) rfl rfl (hb hby d32_11)
  obtain ⟨T9, X9, e9, st9⟩ := getF X7 hx hZ hown (host := "") (Or.inl (hw _ (List.mem_of_getElem? (i := 178) rfl))) Via.refl e7 F_minLon_a1 (g := (mkF m 20 #[.val (.ref a1), .val (.double (own_hf x1)), .second, .val (.double (own_hf x2)), .second] [(.ref a1), (.double (own_hf x2))])) rfl rfl (hb hby d32_20)
  obtain ⟨T11, X11, e11, st11⟩ := getF X9 hx hZ hown (host := "") (Or.inl (hw _ (List.mem_of_getElem? (i := 182) rfl))) Via.refl e9 F_maxLon_a1 (g := (mkF m 29 #[.val (.ref a1), .val (.double (own_hf x1)), .second, .val (.double (own_hf x2)), .second] [(.ref a1), (.double (own_hf x2))])) rfl rfl (hb hby d32_29)
  obtain ⟨fs, hr, hrun, hended, hW, hsame⟩ := X11.leave (v := some (.int (0 : Int32))) (fun h => by rw [Bd.returns] at h; cases h)
  refine ⟨_, _, pre0 _ ?_, hrun, hended, _, _, rfl, ?_, ⟨_, rfl⟩, hW, hsame.mono (by decide) (by decide)⟩
  · show Steps p.tables e below (s₁.setTop (mkF m 0 #[.val (.ref a1), .val (.double (own_hf x1)), .second, .val (.double (own_hf x2)), .second] [])) _
    refine own_dloadN X0.here hx rfl (hb hby d32_0) rfl ?_
    show Steps p.tables e below (s₁.setTop (mkF m 1 #[.val (.ref a1), .val (.double (own_hf x1)), .second, .val (.double (own_hf x2)), .second] [(.double (own_hf x1))])) _
    refine XS.aloadN X0.here hx rfl (hb hby d32_1) rfl rfl ?_
    show Steps p.tables e below (s₁.setTop (mkF m 2 #[.val (.ref a1), .val (.double (own_hf x1)), .second, .val (.double (own_hf x2)), .second] [(.ref a1), (.double (own_hf x1))])) _
    refine st5 _ ?_
    show Steps p.tables e below (T5.setTop (mkF m 5 #[.val (.ref a1), .val (.double (own_hf x1)), .second, .val (.double (own_hf x2)), .second] [(.double (own_hf y1)), (.double (own_hf x1))])) _
    refine own_dcmp X5.here hx rfl (hb hby d32_5) rfl (k := (own_ci x1 y1)) (own_hcmp x1 y1 Rx1 Ry1 _) ?_
    show Steps p.tables e below (T5.setTop (mkF m 6 #[.val (.ref a1), .val (.double (own_hf x1)), .second, .val (.double (own_hf x2)), .second] [(.int (own_ci x1 y1))])) _
    refine XS.ifNo X5.here hx rfl (hb hby d32_6) rfl ((if0 _ _).trans (flt ((fun q => hq0 ((own_ci_lt _ _).mp q)) : ¬ ((own_ci x1 y1) < (0 : Int32)))).1) ?_
    show Steps p.tables e below (T5.setTop (mkF m 9 #[.val (.ref a1), .val (.double (own_hf x1)), .second, .val (.double (own_hf x2)), .second] [])) _
    refine own_dloadN X5.here hx rfl (hb hby d32_9) rfl ?_
    show Steps p.tables e below (T5.setTop (mkF m 10 #[.val (.ref a1), .val (.double (own_hf x1)), .second, .val (.double (own_hf x2)), .second] [(.double (own_hf x1))])) _
    refine XS.aloadN X5.here hx rfl (hb hby d32_10) rfl rfl ?_
    show Steps p.tables e below (T5.setTop (mkF m 11 #[.val (.ref a1), .val (.double (own_hf x1)), .second, .val (.double (own_hf x2)), .second] [(.ref a1), (.double (own_hf x1))])) _
    refine st7 _ ?_
    show Steps p.tables e below (T7.setTop (mkF m 14 #[.val (.ref a1), .val (.double (own_hf x1)), .second, .val (.double (own_hf x2)), .second] [(.double (own_hf y2)), (.double (own_hf x1))])) _
    refine own_dcmp X7.here hx rfl (hb hby d32_14) rfl (k := (own_ci x1 y2)) (own_hcmp x1 y2 Rx1 Ry2 _) ?_
    show Steps p.tables e below (T7.setTop (mkF m 15 #[.val (.ref a1), .val (.double (own_hf x1)), .second, .val (.double (own_hf x2)), .second] [(.int (own_ci x1 y2))])) _
    refine XS.ifNo X7.here hx rfl (hb hby d32_15) rfl ((if0 _ _).trans (flt ((fun q => hq1 ((own_ci_gt _ _).mp q)) : ¬ ((0 : Int32) < (own_ci x1 y2)))).2.2.1) ?_
    show Steps p.tables e below (T7.setTop (mkF m 18 #[.val (.ref a1), .val (.double (own_hf x1)), .second, .val (.double (own_hf x2)), .second] [])) _
    refine own_dloadN X7.here hx rfl (hb hby d32_18) rfl ?_
    show Steps p.tables e below (T7.setTop (mkF m 19 #[.val (.ref a1), .val (.double (own_hf x1)), .second, .val (.double (own_hf x2)), .second] [(.double (own_hf x2))])) _
    refine XS.aloadN X7.here hx rfl (hb hby d32_19) rfl rfl ?_
    show Steps p.tables e below (T7.setTop (mkF m 20 #[.val (.ref a1), .val (.double (own_hf x1)), .second, .val (.double (own_hf x2)), .second] [(.ref a1), (.double (own_hf x2))])) _
    refine st9 _ ?_
    show Steps p.tables e below (T9.setTop (mkF m 23 #[.val (.ref a1), .val (.double (own_hf x1)), .second, .val (.double (own_hf x2)), .second] [(.double (own_hf y3)), (.double (own_hf x2))])) _
    refine own_dcmp X9.here hx rfl (hb hby d32_23) rfl (k := (own_ci x2 y3)) (own_hcmp x2 y3 Rx2 Ry3 _) ?_
    show Steps p.tables e below (T9.setTop (mkF m 24 #[.val (.ref a1), .val (.double (own_hf x1)), .second, .val (.double (own_hf x2)), .second] [(.int (own_ci x2 y3))])) _
    refine XS.ifNo X9.here hx rfl (hb hby d32_24) rfl ((if0 _ _).trans (flt ((fun q => hq2 ((own_ci_lt _ _).mp q)) : ¬ ((own_ci x2 y3) < (0 : Int32)))).1) ?_
    show Steps p.tables e below (T9.setTop (mkF m 27 #[.val (.ref a1), .val (.double (own_hf x1)), .second, .val (.double (own_hf x2)), .second] [])) _
    refine own_dloadN X9.here hx rfl (hb hby d32_27) rfl ?_
    show Steps p.tables e below (T9.setTop (mkF m 28 #[.val (.ref a1), .val (.double (own_hf x1)), .second, .val (.double (own_hf x2)), .second] [(.double (own_hf x2))])) _
    refine XS.aloadN X9.here hx rfl (hb hby d32_28) rfl rfl ?_
    show Steps p.tables e below (T9.setTop (mkF m 29 #[.val (.ref a1), .val (.double (own_hf x1)), .second, .val (.double (own_hf x2)), .second] [(.ref a1), (.double (own_hf x2))])) _
    refine st11 _ ?_
    show Steps p.tables e below (T11.setTop (mkF m 32 #[.val (.ref a1), .val (.double (own_hf x1)), .second, .val (.double (own_hf x2)), .second] [(.double (own_hf y4)), (.double (own_hf x2))])) _
    refine own_dcmp X11.here hx rfl (hb hby d32_32) rfl (k := (own_ci x2 y4)) (own_hcmp x2 y4 Rx2 Ry4 _) ?_
    show Steps p.tables e below (T11.setTop (mkF m 33 #[.val (.ref a1), .val (.double (own_hf x1)), .second, .val (.double (own_hf x2)), .second] [(.int (own_ci x2 y4))])) _
    refine XS.ifYes X11.here hx rfl (pc0 := 33) (pc' := 40) rfl (hb hby d32_33) rfl ((if0 _ _).trans (tlt (((own_ci_gt _ _).mpr hq3) : (0 : Int32) < (own_ci x2 y4))).2.2.1) (by decide) (by decide) ?_
    show Steps p.tables e below (T11.setTop (mkF m 40 #[.val (.ref a1), .val (.double (own_hf x1)), .second, .val (.double (own_hf x2)), .second] [])) _
    refine XS.iconst X11.here hx rfl (hb hby d32_40) ?_
    show Steps p.tables e below (T11.setTop (mkF m 41 #[.val (.ref a1), .val (.double (own_hf x1)), .second, .val (.double (own_hf x2)), .second] [(.int (0 : Int32))])) _
    exact retN X11 hx (t := .boolean) Bd.returns (by simp) (hb hby d32_41) hr
  · show QR (some (.int (0 : Int32))) h0 n0 _ T11.heap _
    rw [e11]
    exact ⟨rfl, N0, rfl⟩
theorem d32_36 : decode prog_17_method_3_code 36 = .ok (.iconst 1, 1) := by decide +kernel
theorem d32_37 : decode prog_17_method_3_code 37 = .ok (.goto 4, 3) := by decide +kernel
set_option maxRecDepth 65536 in
set_option maxHeartbeats 40000000 in
theorem r32e (l : Launch) (Z : State) (a0 : Array Value) (hw : ∀ d ∈ tables_1, d.before a0 Z = true) (ws : List Jvm.Cond) (a1 : Addr) (x1 x2 y1 y2 y3 y4 : Int32) (h0 : Heap) (n0 : Nat) (Z0 : n0 ≤ h0.size) (F_minLat_a1 : Fld Z h0 a1 "com/example/tidegrid/tidegrid/Box" "minLat" "D" (.double (own_hf y1))) (F_maxLat_a1 : Fld Z h0 a1 "com/example/tidegrid/tidegrid/Box" "maxLat" "D" (.double (own_hf y2))) (F_minLon_a1 : Fld Z h0 a1 "com/example/tidegrid/tidegrid/Box" "minLon" "D" (.double (own_hf y3))) (F_maxLon_a1 : Fld Z h0 a1 "com/example/tidegrid/tidegrid/Box" "maxLon" "D" (.double (own_hf y4))) (Rx1 : own_Rg x1) (Rx2 : own_Rg x2) (Ry1 : own_Rg y1) (Ry2 : own_Rg y2) (Ry3 : own_Rg y3) (Ry4 : own_Rg y4) (hq0 : ¬ x1 < y1) (hq1 : ¬ y2 < x1) (hq2 : ¬ x2 < y3) (hq3 : ¬ y4 < x2) :
    MetFree l (⟨"com/example/tidegrid/tidegrid/Box", "contains", "(DD)Z"⟩ : MethodName) (head1 (Jvm.Cond.code (⟨"com/example/tidegrid/tidegrid/Box", "contains", "(DD)Z"⟩ : MethodName) prog_17_method_3_code 5 (some .boolean) :: ws) ({ frames := 0, cells := 0, slots := 0, locals := 0 } : Room)) (fun a U => a = #[(.ref a1), (.double (own_hf x1)), (.double (own_hf x2))] ∧ Z.Warmed39 U.vm ∧ U.heap = h0) (fun _ _ _ _ _ => True) (fun _ U o U' => ∃ v L, o = .returned v ∧ QR (some (.int (1 : Int32))) h0 n0 v U'.heap L ∧ FrameEnd U o U' L ({ frames := 0, cells := 0, slots := 0, locals := 0 } : Room).cells ({ frames := 0, cells := 0, slots := 0, locals := 0 } : Room).slots) := by
  refine MetFree.of_bodySF (plainFor_of_name pn_32) hisR ?_
  intro p e s m args below meth c s₁ Bd hml0 hP hK
  obtain ⟨rfl, hZ, hh⟩ := hP
  have hx := Bd.exec
  have hby := Bd.bytes
  have hml : c.maxLocals = 5 := hml0
  have hown : s.vm.findClass "com/example/tidegrid/tidegrid/Box" = some m.cls := findClass_of_methodNamed Bd.named
  have hnm := (name_of_methodNamed Bd.named Bd.method).1
  have X0 : Stand p l e ({ frames := 0, cells := 0, slots := 0, locals := 0 } : Room) s m #[(.ref a1), (.double (own_hf x1)), (.double (own_hf x2))] below meth c s₁ [] 0 0 := Stand.of_body Bd
  have e0 : s₁.heap = h0 := by rw [← hh, Bd.state]; rfl
  have N0 := Fr.nil n0
  have pre0 : ∀ t, Steps p.tables e below (s₁.setTop (mkF m 0 #[.val (.ref a1), .val (.double (own_hf x1)), .second, .val (.double (own_hf x2)), .second] [])) t → Steps p.tables e below (s₁.setTop (entryFrame m #[(.ref a1), (.double (own_hf x1)), (.double (own_hf x2))] 5)) t := fun t k => castTop (ef_32 m a1 (own_hf x1) (own_hf x2)) k
  obtain ⟨T5, X5, e5, st5⟩ := getF X0 hx hZ hown (host := "") (Or.inl (hw _ (List.mem_of_getElem? (i := 176) rfl))) Via.refl e0 F_minLat_a1 (g := (mkF m 2 #[.val (.ref a1), .val (.double (own_hf x1)), .second, .val (.double (own_hf x2)), .second] [(.ref a1), (.double (own_hf x1))])) rfl rfl (hb hby d32_2)
  obtain ⟨T7, X7, e7, st7⟩ := getF X5 hx hZ hown (host := "") (Or.inl (hw _ (List.mem_of_getElem? (i := 180) rfl))) Via.refl e5 F_maxLat_a1 (g := (mkF m 11 #[.val (.ref a1), .val (.double (own_hf x1)), .second, .val (.double (own_hf x2)), .second] [(.ref a1), (.double (own_hf x1))])) rfl rfl (hb hby d32_11)
  obtain ⟨T9, X9, e9, st9⟩ := getF X7 hx hZ hown (host := "") (Or.inl (hw _ (List.mem_of_getElem? (i := 178) rfl))) Via.refl e7 F_minLon_a1 (g := (mkF m 20 #[.val (.ref a1), .val (.double (own_hf x1)), .second, .val (.double (own_hf x2)), .second] [(.ref a1), (.double (own_hf x2))])) rfl rfl (hb hby d32_20)
  obtain ⟨T11, X11, e11, st11⟩ := getF X9 hx hZ hown (host := "") (Or.inl (hw _ (List.mem_of_getElem? (i := 182) rfl))) Via.refl e9 F_maxLon_a1 (g := (mkF m 29 #[.val (.ref a1), .val (.double (own_hf x1)), .second, .val (.double (own_hf x2)), .second] [(.ref a1), (.double (own_hf x2))])) rfl rfl (hb hby d32_29)
  obtain ⟨fs, hr, hrun, hended, hW, hsame⟩ := X11.leave (v := some (.int (1 : Int32))) (fun h => by rw [Bd.returns] at h; cases h)
  refine ⟨_, _, pre0 _ ?_, hrun, hended, _, _, rfl, ?_, ⟨_, rfl⟩, hW, hsame.mono (by decide) (by decide)⟩
  · show Steps p.tables e below (s₁.setTop (mkF m 0 #[.val (.ref a1), .val (.double (own_hf x1)), .second, .val (.double (own_hf x2)), .second] [])) _
    refine own_dloadN X0.here hx rfl (hb hby d32_0) rfl ?_
    show Steps p.tables e below (s₁.setTop (mkF m 1 #[.val (.ref a1), .val (.double (own_hf x1)), .second, .val (.double (own_hf x2)), .second] [(.double (own_hf x1))])) _
    refine XS.aloadN X0.here hx rfl (hb hby d32_1) rfl rfl ?_
    show Steps p.tables e below (s₁.setTop (mkF m 2 #[.val (.ref a1), .val (.double (own_hf x1)), .second, .val (.double (own_hf x2)), .second] [(.ref a1), (.double (own_hf x1))])) _
    refine st5 _ ?_
    show Steps p.tables e below (T5.setTop (mkF m 5 #[.val (.ref a1), .val (.double (own_hf x1)), .second, .val (.double (own_hf x2)), .second] [(.double (own_hf y1)), (.double (own_hf x1))])) _
    refine own_dcmp X5.here hx rfl (hb hby d32_5) rfl (k := (own_ci x1 y1)) (own_hcmp x1 y1 Rx1 Ry1 _) ?_
    show Steps p.tables e below (T5.setTop (mkF m 6 #[.val (.ref a1), .val (.double (own_hf x1)), .second, .val (.double (own_hf x2)), .second] [(.int (own_ci x1 y1))])) _
    refine XS.ifNo X5.here hx rfl (hb hby d32_6) rfl ((if0 _ _).trans (flt ((fun q => hq0 ((own_ci_lt _ _).mp q)) : ¬ ((own_ci x1 y1) < (0 : Int32)))).1) ?_
    show Steps p.tables e below (T5.setTop (mkF m 9 #[.val (.ref a1), .val (.double (own_hf x1)), .second, .val (.double (own_hf x2)), .second] [])) _
    refine own_dloadN X5.here hx rfl (hb hby d32_9) rfl ?_
    show Steps p.tables e below (T5.setTop (mkF m 10 #[.val (.ref a1), .val (.double (own_hf x1)), .second, .val (.double (own_hf x2)), .second] [(.double (own_hf x1))])) _
    refine XS.aloadN X5.here hx rfl (hb hby d32_10) rfl rfl ?_
    show Steps p.tables e below (T5.setTop (mkF m 11 #[.val (.ref a1), .val (.double (own_hf x1)), .second, .val (.double (own_hf x2)), .second] [(.ref a1), (.double (own_hf x1))])) _
    refine st7 _ ?_
    show Steps p.tables e below (T7.setTop (mkF m 14 #[.val (.ref a1), .val (.double (own_hf x1)), .second, .val (.double (own_hf x2)), .second] [(.double (own_hf y2)), (.double (own_hf x1))])) _
    refine own_dcmp X7.here hx rfl (hb hby d32_14) rfl (k := (own_ci x1 y2)) (own_hcmp x1 y2 Rx1 Ry2 _) ?_
    show Steps p.tables e below (T7.setTop (mkF m 15 #[.val (.ref a1), .val (.double (own_hf x1)), .second, .val (.double (own_hf x2)), .second] [(.int (own_ci x1 y2))])) _
    refine XS.ifNo X7.here hx rfl (hb hby d32_15) rfl ((if0 _ _).trans (flt ((fun q => hq1 ((own_ci_gt _ _).mp q)) : ¬ ((0 : Int32) < (own_ci x1 y2)))).2.2.1) ?_
    show Steps p.tables e below (T7.setTop (mkF m 18 #[.val (.ref a1), .val (.double (own_hf x1)), .second, .val (.double (own_hf x2)), .second] [])) _
    refine own_dloadN X7.here hx rfl (hb hby d32_18) rfl ?_
    show Steps p.tables e below (T7.setTop (mkF m 19 #[.val (.ref a1), .val (.double (own_hf x1)), .second, .val (.double (own_hf x2)), .second] [(.double (own_hf x2))])) _
    refine XS.aloadN X7.here hx rfl (hb hby d32_19) rfl rfl ?_
    show Steps p.tables e below (T7.setTop (mkF m 20 #[.val (.ref a1), .val (.double (own_hf x1)), .second, .val (.double (own_hf x2)), .second] [(.ref a1), (.double (own_hf x2))])) _
    refine st9 _ ?_
    show Steps p.tables e below (T9.setTop (mkF m 23 #[.val (.ref a1), .val (.double (own_hf x1)), .second, .val (.double (own_hf x2)), .second] [(.double (own_hf y3)), (.double (own_hf x2))])) _
    refine own_dcmp X9.here hx rfl (hb hby d32_23) rfl (k := (own_ci x2 y3)) (own_hcmp x2 y3 Rx2 Ry3 _) ?_
    show Steps p.tables e below (T9.setTop (mkF m 24 #[.val (.ref a1), .val (.double (own_hf x1)), .second, .val (.double (own_hf x2)), .second] [(.int (own_ci x2 y3))])) _
    refine XS.ifNo X9.here hx rfl (hb hby d32_24) rfl ((if0 _ _).trans (flt ((fun q => hq2 ((own_ci_lt _ _).mp q)) : ¬ ((own_ci x2 y3) < (0 : Int32)))).1) ?_
    show Steps p.tables e below (T9.setTop (mkF m 27 #[.val (.ref a1), .val (.double (own_hf x1)), .second, .val (.double (own_hf x2)), .second] [])) _
    refine own_dloadN X9.here hx rfl (hb hby d32_27) rfl ?_
    show Steps p.tables e below (T9.setTop (mkF m 28 #[.val (.ref a1), .val (.double (own_hf x1)), .second, .val (.double (own_hf x2)), .second] [(.double (own_hf x2))])) _
    refine XS.aloadN X9.here hx rfl (hb hby d32_28) rfl rfl ?_
    show Steps p.tables e below (T9.setTop (mkF m 29 #[.val (.ref a1), .val (.double (own_hf x1)), .second, .val (.double (own_hf x2)), .second] [(.ref a1), (.double (own_hf x2))])) _
    refine st11 _ ?_
    show Steps p.tables e below (T11.setTop (mkF m 32 #[.val (.ref a1), .val (.double (own_hf x1)), .second, .val (.double (own_hf x2)), .second] [(.double (own_hf y4)), (.double (own_hf x2))])) _
    refine own_dcmp X11.here hx rfl (hb hby d32_32) rfl (k := (own_ci x2 y4)) (own_hcmp x2 y4 Rx2 Ry4 _) ?_
    show Steps p.tables e below (T11.setTop (mkF m 33 #[.val (.ref a1), .val (.double (own_hf x1)), .second, .val (.double (own_hf x2)), .second] [(.int (own_ci x2 y4))])) _
    refine XS.ifNo X11.here hx rfl (hb hby d32_33) rfl ((if0 _ _).trans (flt ((fun q => hq3 ((own_ci_gt _ _).mp q)) : ¬ ((0 : Int32) < (own_ci x2 y4)))).2.2.1) ?_
    show Steps p.tables e below (T11.setTop (mkF m 36 #[.val (.ref a1), .val (.double (own_hf x1)), .second, .val (.double (own_hf x2)), .second] [])) _
    refine XS.iconst X11.here hx rfl (hb hby d32_36) ?_
    show Steps p.tables e below (T11.setTop (mkF m 37 #[.val (.ref a1), .val (.double (own_hf x1)), .second, .val (.double (own_hf x2)), .second] [(.int (1 : Int32))])) _
    refine XS.goto X11.here hx rfl (pc0 := 37) (pc' := 41) rfl (hb hby d32_37) (by decide) (by decide) ?_
    show Steps p.tables e below (T11.setTop (mkF m 41 #[.val (.ref a1), .val (.double (own_hf x1)), .second, .val (.double (own_hf x2)), .second] [(.int (1 : Int32))])) _
    exact retN X11 hx (t := .boolean) Bd.returns (by simp) (hb hby d32_41) hr
  · show QR (some (.int (1 : Int32))) h0 n0 _ T11.heap _
    rw [e11]
    exact ⟨rfl, N0, rfl⟩
def own_b (x : Bool) : Int32 := if x then 1 else 0
def own_in (x1 x2 y1 y2 y3 y4 : Int32) : Bool := decide (¬ x1 < y1 ∧ ¬ y2 < x1 ∧ ¬ x2 < y3 ∧ ¬ y4 < x2)
theorem r32 (l : Launch) (Z : State) (a0 : Array Value) (hw : ∀ d ∈ tables_1, d.before a0 Z = true) (ws : List Jvm.Cond) (a1 : Addr) (x1 x2 y1 y2 y3 y4 : Int32) (h0 : Heap) (n0 : Nat) (Z0 : n0 ≤ h0.size) (F0 : Fld Z h0 a1 "com/example/tidegrid/tidegrid/Box" "minLat" "D" (.double (own_hf y1))) (F1 : Fld Z h0 a1 "com/example/tidegrid/tidegrid/Box" "maxLat" "D" (.double (own_hf y2))) (F2 : Fld Z h0 a1 "com/example/tidegrid/tidegrid/Box" "minLon" "D" (.double (own_hf y3))) (F3 : Fld Z h0 a1 "com/example/tidegrid/tidegrid/Box" "maxLon" "D" (.double (own_hf y4))) (Rx1 : own_Rg x1) (Rx2 : own_Rg x2) (Ry1 : own_Rg y1) (Ry2 : own_Rg y2) (Ry3 : own_Rg y3) (Ry4 : own_Rg y4) :
    MetFree l (⟨"com/example/tidegrid/tidegrid/Box", "contains", "(DD)Z"⟩ : MethodName) (head1 (Jvm.Cond.code (⟨"com/example/tidegrid/tidegrid/Box", "contains", "(DD)Z"⟩ : MethodName) prog_17_method_3_code 5 (some .boolean) :: ws) ({ frames := 0, cells := 0, slots := 0, locals := 0 } : Room)) (fun a U => a = #[(.ref a1), (.double (own_hf x1)), (.double (own_hf x2))] ∧ Z.Warmed39 U.vm ∧ U.heap = h0) (fun _ _ _ _ _ => True) (fun _ U o U' => ∃ v L, o = .returned v ∧ QR (some (.int (own_b (own_in x1 x2 y1 y2 y3 y4)))) h0 n0 v U'.heap L ∧ FrameEnd U o U' L ({ frames := 0, cells := 0, slots := 0, locals := 0 } : Room).cells ({ frames := 0, cells := 0, slots := 0, locals := 0 } : Room).slots) := by
  by_cases h0' : x1 < y1
  · rw [show own_in x1 x2 y1 y2 y3 y4 = false from decide_eq_false fun q => q.1 h0']; have h0_ := h0'; exact r32a l Z a0 hw ws a1 x1 x2 y1 y2 y3 y4 h0 n0 Z0 F0 F1 F2 F3 Rx1 Rx2 Ry1 Ry2 Ry3 Ry4  h0'
  by_cases h1 : y2 < x1
  · rw [show own_in x1 x2 y1 y2 y3 y4 = false from decide_eq_false fun q => q.2.1 h1]; exact r32b l Z a0 hw ws a1 x1 x2 y1 y2 y3 y4 h0 n0 Z0 F0 F1 F2 F3 Rx1 Rx2 Ry1 Ry2 Ry3 Ry4  h0' h1
  by_cases h2 : x2 < y3
  · rw [show own_in x1 x2 y1 y2 y3 y4 = false from decide_eq_false fun q => q.2.2.1 h2]; exact r32c l Z a0 hw ws a1 x1 x2 y1 y2 y3 y4 h0 n0 Z0 F0 F1 F2 F3 Rx1 Rx2 Ry1 Ry2 Ry3 Ry4  h0' h1 h2
  by_cases h3 : y4 < x2
  · rw [show own_in x1 x2 y1 y2 y3 y4 = false from decide_eq_false fun q => q.2.2.2 h3]; exact r32d l Z a0 hw ws a1 x1 x2 y1 y2 y3 y4 h0 n0 Z0 F0 F1 F2 F3 Rx1 Rx2 Ry1 Ry2 Ry3 Ry4  h0' h1 h2 h3
  · rw [show own_in x1 x2 y1 y2 y3 y4 = true from decide_eq_true ⟨h0', h1, h2, h3⟩]; exact r32e l Z a0 hw ws a1 x1 x2 y1 y2 y3 y4 h0 n0 Z0 F0 F1 F2 F3 Rx1 Rx2 Ry1 Ry2 Ry3 Ry4  h0' h1 h2 h3
theorem r32w (l : Launch) (Z : State) (a0 : Array Value) (hw : ∀ d ∈ tables_1, d.before a0 Z = true) (ws : List Jvm.Cond) (a1 : Addr) (u2 u3 : UInt64) (x1 x2 y1 y2 y3 y4 : Int32) (h0 : Heap) (n0 : Nat) (Z0 : n0 ≤ h0.size) (e1 : u2 = own_hf x1) (e2 : u3 = own_hf x2) (F0 : Fld Z h0 a1 "com/example/tidegrid/tidegrid/Box" "minLat" "D" (.double (own_hf y1))) (F1 : Fld Z h0 a1 "com/example/tidegrid/tidegrid/Box" "maxLat" "D" (.double (own_hf y2))) (F2 : Fld Z h0 a1 "com/example/tidegrid/tidegrid/Box" "minLon" "D" (.double (own_hf y3))) (F3 : Fld Z h0 a1 "com/example/tidegrid/tidegrid/Box" "maxLon" "D" (.double (own_hf y4))) (Rx1 : own_Rg x1) (Rx2 : own_Rg x2) (Ry1 : own_Rg y1) (Ry2 : own_Rg y2) (Ry3 : own_Rg y3) (Ry4 : own_Rg y4) :
    MetFree l (⟨"com/example/tidegrid/tidegrid/Box", "contains", "(DD)Z"⟩ : MethodName) (head1 (Jvm.Cond.code (⟨"com/example/tidegrid/tidegrid/Box", "contains", "(DD)Z"⟩ : MethodName) prog_17_method_3_code 5 (some .boolean) :: ws) ({ frames := 0, cells := 0, slots := 0, locals := 0 } : Room)) (fun a U => a = #[(.ref a1), (.double u2), (.double u3)] ∧ Z.Warmed39 U.vm ∧ U.heap = h0) (fun _ _ _ _ _ => True) (fun _ U o U' => ∃ v L, o = .returned v ∧ QR (some (.int (own_b (own_in x1 x2 y1 y2 y3 y4)))) h0 n0 v U'.heap L ∧ FrameEnd U o U' L ({ frames := 0, cells := 0, slots := 0, locals := 0 } : Room).cells ({ frames := 0, cells := 0, slots := 0, locals := 0 } : Room).slots) := by
  subst e1 e2
  exact r32 l Z a0 hw ws a1 x1 x2 y1 y2 y3 y4 h0 n0 Z0 F0 F1 F2 F3 Rx1 Rx2 Ry1 Ry2 Ry3 Ry4
theorem d6_0 : decode prog_17_method_2_code 0 = .ok (.dload_n 0, 1) := by decide +kernel
theorem d6_1 : decode prog_17_method_2_code 1 = .ok (.new 28, 3) := by decide +kernel
theorem d6_4 : decode prog_17_method_2_code 4 = .ok (.dup, 1) := by decide +kernel
theorem d6_5 : decode prog_17_method_2_code 5 = .ok (.invokespecial 30, 3) := by decide +kernel
theorem d6_8 : decode prog_17_method_2_code 8 = .ok (.aload 8, 2) := by decide +kernel
theorem d6_10 : decode prog_17_method_2_code 10 = .ok (.invokevirtual 31, 3) := by decide +kernel
theorem d6_13 : decode prog_17_method_2_code 13 = .ok (.ldc 35, 2) := by decide +kernel
theorem pn_6 : plainName "com/example/tidegrid/tidegrid/Box" = true := by first | (simp [plainName, overriddenIn]; done) | decide +kernel
theorem pd_6_2 : parseMethodDescriptor "()V" = some ⟨[], none⟩ := by decide +kernel
theorem pd_6_5 : parseMethodDescriptor "(Ljava/lang/String;)Ljava/lang/StringBuilder;" = some ⟨[(.object "java/lang/String")], some (.object "java/lang/StringBuilder")⟩ := by decide +kernel
theorem ef_6 (m : MethodId) (x0 : UInt64) (x1 : UInt64) (x2 : UInt64) (x3 : UInt64) (x4 : Addr) : entryFrame m #[(.double x0), (.double x1), (.double x2), (.double x3), (.ref x4)] 9 = mkF m 0 #[.val (.double x0), .second, .val (.double x1), .second, .val (.double x2), .second, .val (.double x3), .second, .val (.ref x4)] [] := by first | (simp [entryFrame, mkF, argsToLocals, Value.category]; done) | rfl
theorem d6_15 : decode prog_17_method_2_code 15 = .ok (.invokevirtual 31, 3) := by decide +kernel
theorem d6_18 : decode prog_17_method_2_code 18 = .ok (.invokevirtual 37, 3) := by decide +kernel
theorem d6_21 : decode prog_17_method_2_code 21 = .ok (.invokestatic 41, 3) := by decide +kernel
theorem d6_24 : decode prog_17_method_2_code 24 = .ok (.dload_n 2, 1) := by decide +kernel
theorem d6_25 : decode prog_17_method_2_code 25 = .ok (.new 28, 3) := by decide +kernel
theorem d6_28 : decode prog_17_method_2_code 28 = .ok (.dup, 1) := by decide +kernel
theorem d6_29 : decode prog_17_method_2_code 29 = .ok (.invokespecial 30, 3) := by decide +kernel
theorem d6_32 : decode prog_17_method_2_code 32 = .ok (.aload 8, 2) := by decide +kernel
theorem d6_34 : decode prog_17_method_2_code 34 = .ok (.invokevirtual 31, 3) := by decide +kernel
theorem d6_37 : decode prog_17_method_2_code 37 = .ok (.ldc 47, 2) := by decide +kernel
theorem d6_39 : decode prog_17_method_2_code 39 = .ok (.invokevirtual 31, 3) := by decide +kernel
theorem d6_42 : decode prog_17_method_2_code 42 = .ok (.invokevirtual 37, 3) := by decide +kernel
theorem d6_45 : decode prog_17_method_2_code 45 = .ok (.invokestatic 49, 3) := by decide +kernel
theorem d6_48 : decode prog_17_method_2_code 48 = .ok (.dload 4, 2) := by decide +kernel
theorem d6_50 : decode prog_17_method_2_code 50 = .ok (.new 28, 3) := by decide +kernel
theorem d6_53 : decode prog_17_method_2_code 53 = .ok (.dup, 1) := by decide +kernel
theorem d6_54 : decode prog_17_method_2_code 54 = .ok (.invokespecial 30, 3) := by decide +kernel
theorem d6_57 : decode prog_17_method_2_code 57 = .ok (.aload 8, 2) := by decide +kernel
theorem d6_59 : decode prog_17_method_2_code 59 = .ok (.invokevirtual 31, 3) := by decide +kernel
theorem d6_62 : decode prog_17_method_2_code 62 = .ok (.ldc 52, 2) := by decide +kernel
theorem d6_64 : decode prog_17_method_2_code 64 = .ok (.invokevirtual 31, 3) := by decide +kernel
theorem d6_67 : decode prog_17_method_2_code 67 = .ok (.invokevirtual 37, 3) := by decide +kernel
theorem d6_70 : decode prog_17_method_2_code 70 = .ok (.invokestatic 41, 3) := by decide +kernel
theorem d6_73 : decode prog_17_method_2_code 73 = .ok (.dload 6, 2) := by decide +kernel
theorem d6_75 : decode prog_17_method_2_code 75 = .ok (.new 28, 3) := by decide +kernel
theorem d6_78 : decode prog_17_method_2_code 78 = .ok (.dup, 1) := by decide +kernel
theorem d6_79 : decode prog_17_method_2_code 79 = .ok (.invokespecial 30, 3) := by decide +kernel
theorem d6_82 : decode prog_17_method_2_code 82 = .ok (.aload 8, 2) := by decide +kernel
theorem d6_84 : decode prog_17_method_2_code 84 = .ok (.invokevirtual 31, 3) := by decide +kernel
theorem d6_87 : decode prog_17_method_2_code 87 = .ok (.ldc 54, 2) := by decide +kernel
theorem d6_89 : decode prog_17_method_2_code 89 = .ok (.invokevirtual 31, 3) := by decide +kernel
theorem d6_92 : decode prog_17_method_2_code 92 = .ok (.invokevirtual 37, 3) := by decide +kernel
theorem d6_95 : decode prog_17_method_2_code 95 = .ok (.invokestatic 49, 3) := by decide +kernel
theorem d6_98 : decode prog_17_method_2_code 98 = .ok (.dload_n 0, 1) := by decide +kernel
theorem d6_99 : decode prog_17_method_2_code 99 = .ok (.dload 4, 2) := by decide +kernel
theorem d6_101 : decode prog_17_method_2_code 101 = .ok (.dcmp .l, 1) := by decide +kernel
theorem d6_102 : decode prog_17_method_2_code 102 = .ok (.ifCond .le 45, 3) := by decide +kernel
theorem d6_105 : decode prog_17_method_2_code 105 = .ok (.new 56, 3) := by decide +kernel
theorem d6_108 : decode prog_17_method_2_code 108 = .ok (.dup, 1) := by decide +kernel
theorem d6_109 : decode prog_17_method_2_code 109 = .ok (.new 28, 3) := by decide +kernel
theorem d6_112 : decode prog_17_method_2_code 112 = .ok (.dup, 1) := by decide +kernel
theorem d6_113 : decode prog_17_method_2_code 113 = .ok (.invokespecial 30, 3) := by decide +kernel
theorem d6_116 : decode prog_17_method_2_code 116 = .ok (.aload 8, 2) := by decide +kernel
theorem d6_118 : decode prog_17_method_2_code 118 = .ok (.invokevirtual 31, 3) := by decide +kernel
theorem d6_121 : decode prog_17_method_2_code 121 = .ok (.ldc 58, 2) := by decide +kernel
theorem d6_123 : decode prog_17_method_2_code 123 = .ok (.invokevirtual 31, 3) := by decide +kernel
theorem d6_126 : decode prog_17_method_2_code 126 = .ok (.dload_n 0, 1) := by decide +kernel
theorem d6_127 : decode prog_17_method_2_code 127 = .ok (.invokevirtual 60, 3) := by decide +kernel
theorem d6_130 : decode prog_17_method_2_code 130 = .ok (.ldc 63, 2) := by decide +kernel
theorem d6_132 : decode prog_17_method_2_code 132 = .ok (.invokevirtual 31, 3) := by decide +kernel
theorem d6_135 : decode prog_17_method_2_code 135 = .ok (.dload 4, 2) := by decide +kernel
theorem d6_137 : decode prog_17_method_2_code 137 = .ok (.invokevirtual 60, 3) := by decide +kernel
theorem d6_140 : decode prog_17_method_2_code 140 = .ok (.invokevirtual 37, 3) := by decide +kernel
theorem d6_143 : decode prog_17_method_2_code 143 = .ok (.invokespecial 65, 3) := by decide +kernel
theorem d6_146 : decode prog_17_method_2_code 146 = .ok (.athrow, 1) := by decide +kernel
theorem d6_147 : decode prog_17_method_2_code 147 = .ok (.dload_n 2, 1) := by decide +kernel
theorem d6_148 : decode prog_17_method_2_code 148 = .ok (.dload 6, 2) := by decide +kernel
theorem d6_150 : decode prog_17_method_2_code 150 = .ok (.dcmp .l, 1) := by decide +kernel
theorem d6_151 : decode prog_17_method_2_code 151 = .ok (.ifCond .le 45, 3) := by decide +kernel
theorem d6_154 : decode prog_17_method_2_code 154 = .ok (.new 56, 3) := by decide +kernel
theorem d6_157 : decode prog_17_method_2_code 157 = .ok (.dup, 1) := by decide +kernel
theorem d6_158 : decode prog_17_method_2_code 158 = .ok (.new 28, 3) := by decide +kernel
theorem d6_161 : decode prog_17_method_2_code 161 = .ok (.dup, 1) := by decide +kernel
theorem d6_162 : decode prog_17_method_2_code 162 = .ok (.invokespecial 30, 3) := by decide +kernel
theorem d6_165 : decode prog_17_method_2_code 165 = .ok (.aload 8, 2) := by decide +kernel
theorem d6_167 : decode prog_17_method_2_code 167 = .ok (.invokevirtual 31, 3) := by decide +kernel
theorem d6_170 : decode prog_17_method_2_code 170 = .ok (.ldc 68, 2) := by decide +kernel
theorem d6_172 : decode prog_17_method_2_code 172 = .ok (.invokevirtual 31, 3) := by decide +kernel
theorem d6_175 : decode prog_17_method_2_code 175 = .ok (.dload_n 2, 1) := by decide +kernel
theorem d6_176 : decode prog_17_method_2_code 176 = .ok (.invokevirtual 60, 3) := by decide +kernel
theorem d6_179 : decode prog_17_method_2_code 179 = .ok (.ldc 63, 2) := by decide +kernel
theorem d6_181 : decode prog_17_method_2_code 181 = .ok (.invokevirtual 31, 3) := by decide +kernel
theorem d6_184 : decode prog_17_method_2_code 184 = .ok (.dload 6, 2) := by decide +kernel
theorem d6_186 : decode prog_17_method_2_code 186 = .ok (.invokevirtual 60, 3) := by decide +kernel
theorem d6_189 : decode prog_17_method_2_code 189 = .ok (.invokevirtual 37, 3) := by decide +kernel
theorem d6_192 : decode prog_17_method_2_code 192 = .ok (.invokespecial 65, 3) := by decide +kernel
theorem d6_195 : decode prog_17_method_2_code 195 = .ok (.athrow, 1) := by decide +kernel
theorem d6_196 : decode prog_17_method_2_code 196 = .ok (.return_, 1) := by decide +kernel
theorem own_pdT : parseMethodDescriptor "()Ljava/lang/String;" = some ⟨[], some (.object "java/lang/String")⟩ := by decide +kernel
theorem own_pdR : parseMethodDescriptor "(DLjava/lang/String;)V" = some ⟨[.double, .object "java/lang/String"], none⟩ := by decide +kernel
theorem own_pdE : parseMethodDescriptor "(DDDDLjava/lang/String;)V" = some ⟨[.double, .double, .double, .double, .object "java/lang/String"], none⟩ := by decide +kernel
abbrev own_EL : List (String × Nat) := [("com/example/tidegrid/tidegrid/Box", 7), ("com/example/tidegrid/tidegrid/Box", 35), ("com/example/tidegrid/tidegrid/Box", 47), ("com/example/tidegrid/tidegrid/Box", 52), ("com/example/tidegrid/tidegrid/Box", 54)]
theorem own_tl7 : "box".toList = ['b', 'o', 'x'] := by decide +kernel
abbrev own_vs7 : List Value := ['b', 'o', 'x'].map (fun c => Value.int (Jvm.Lit.byteI c.toNat.toUInt16))
theorem own_tx7 : (∀ c ∈ "box".toList, c.toNat < 256) ∧ "box".toList.map (fun c => Value.int (Jvm.Lit.byteI c.toNat.toUInt16)) = own_vs7 := by
  rw [own_tl7]
  exact ⟨by decide, rfl⟩
theorem own_tl35 : " minimum latitude".toList = [' ', 'm', 'i', 'n', 'i', 'm', 'u', 'm', ' ', 'l', 'a', 't', 'i', 't', 'u', 'd', 'e'] := by decide +kernel
abbrev own_vs35 : List Value := [' ', 'm', 'i', 'n', 'i', 'm', 'u', 'm', ' ', 'l', 'a', 't', 'i', 't', 'u', 'd', 'e'].map (fun c => Value.int (Jvm.Lit.byteI c.toNat.toUInt16))
theorem own_tx35 : (∀ c ∈ " minimum latitude".toList, c.toNat < 256) ∧ " minimum latitude".toList.map (fun c => Value.int (Jvm.Lit.byteI c.toNat.toUInt16)) = own_vs35 := by
  rw [own_tl35]
  exact ⟨by decide, rfl⟩
theorem own_tl47 : " minimum longitude".toList = [' ', 'm', 'i', 'n', 'i', 'm', 'u', 'm', ' ', 'l', 'o', 'n', 'g', 'i', 't', 'u', 'd', 'e'] := by decide +kernel
abbrev own_vs47 : List Value := [' ', 'm', 'i', 'n', 'i', 'm', 'u', 'm', ' ', 'l', 'o', 'n', 'g', 'i', 't', 'u', 'd', 'e'].map (fun c => Value.int (Jvm.Lit.byteI c.toNat.toUInt16))
theorem own_tx47 : (∀ c ∈ " minimum longitude".toList, c.toNat < 256) ∧ " minimum longitude".toList.map (fun c => Value.int (Jvm.Lit.byteI c.toNat.toUInt16)) = own_vs47 := by
  rw [own_tl47]
  exact ⟨by decide, rfl⟩
theorem own_tl52 : " maximum latitude".toList = [' ', 'm', 'a', 'x', 'i', 'm', 'u', 'm', ' ', 'l', 'a', 't', 'i', 't', 'u', 'd', 'e'] := by decide +kernel
abbrev own_vs52 : List Value := [' ', 'm', 'a', 'x', 'i', 'm', 'u', 'm', ' ', 'l', 'a', 't', 'i', 't', 'u', 'd', 'e'].map (fun c => Value.int (Jvm.Lit.byteI c.toNat.toUInt16))
theorem own_tx52 : (∀ c ∈ " maximum latitude".toList, c.toNat < 256) ∧ " maximum latitude".toList.map (fun c => Value.int (Jvm.Lit.byteI c.toNat.toUInt16)) = own_vs52 := by
  rw [own_tl52]
  exact ⟨by decide, rfl⟩
theorem own_tl54 : " maximum longitude".toList = [' ', 'm', 'a', 'x', 'i', 'm', 'u', 'm', ' ', 'l', 'o', 'n', 'g', 'i', 't', 'u', 'd', 'e'] := by decide +kernel
abbrev own_vs54 : List Value := [' ', 'm', 'a', 'x', 'i', 'm', 'u', 'm', ' ', 'l', 'o', 'n', 'g', 'i', 't', 'u', 'd', 'e'].map (fun c => Value.int (Jvm.Lit.byteI c.toNat.toUInt16))
theorem own_tx54 : (∀ c ∈ " maximum longitude".toList, c.toNat < 256) ∧ " maximum longitude".toList.map (fun c => Value.int (Jvm.Lit.byteI c.toNat.toUInt16)) = own_vs54 := by
  rw [own_tl54]
  exact ⟨by decide, rfl⟩
theorem own_noW {s : State} : s.Since s.vm 0 := (State.WarmedH.refl s).since 0
abbrev own_R6 : Room := ({ frames := 6, cells := 28, slots := 620, locals := 100 } : Room)
set_option maxRecDepth 65536 in
set_option maxHeartbeats 40000000 in
theorem own_ck1 {p : Program} {l : Launch} {e : Env} {s : State} {m : MethodId} {args : Array Value} {below : List Frame} {meth : Method} {c : Code} {T0 : State} {locs : List Loc} {cells slots : Nat} {Z : State} {a0 : Array Value} {h0 : Heap} {vm0 : Vm} {k0 : Nat} (x1 x2 x3 x4 : Int32) (a8 : Addr) (n0 : Nat)
    (X0 : Stand p l e own_R6 (s.setVm vm0) m args below meth c T0 locs cells slots) (hS : s.Since vm0 k0) (hk : k0 ≤ h0.size) (hx : p.tables.exec = Jvm.exec) (hZ : Z.Warmed39 (s.setVm vm0).vm) (hw : ∀ d ∈ tables_1, d.before a0 Z = true) (hwS : ∀ d ∈ Bundle.stringAtoms, d.before a0 Z = true) (hEL : EW Z a0 own_EL) (hC : CHv Z own_EL vm0 h0) (hby : c.code = prog_17_method_2_code) (hml : c.maxLocals = 9) (hown : (s.setVm vm0).vm.findClass "com/example/tidegrid/tidegrid/Box" = some m.cls) (e0 : T0.heap = h0) (Z0 : n0 ≤ h0.size) (N0 : Fr n0 locs) (hcl : cells ≤ 21) (hsl : slots ≤ 465) (S8 : own_Str Z h0 a8 3) (CS : own_CS Z Z.heap) (O : Old Z n0 h0) (hR : own_Rg x1) (hlo : ¬ x1 < (-180 : Int32)) (hhi : ¬ (180 : Int32) < x1) :
    ∃ (T' : State) (vm' : Vm) (locs' : List Loc) (k : Nat), Stand p l e own_R6 (s.setVm vm') m args below meth c T' locs' (cells + 7) (slots + 154) ∧ s.Since vm' k ∧ k ≤ T'.heap.size ∧ Z.Warmed39 (s.setVm vm').vm ∧ (s.setVm vm').vm.findClass "com/example/tidegrid/tidegrid/Box" = some m.cls ∧ Fr n0 locs' ∧ Keep h0 T'.heap [] ∧ CHr Z own_EL vm0 h0 vm' T'.heap ∧ ∀ target, Steps p.tables e below (T'.setTop (mkF m 24 #[.val (.double (own_hf x1)), .second, .val (.double (own_hf x2)), .second, .val (.double (own_hf x3)), .second, .val (.double (own_hf x4)), .second, .val (.ref a8)] [])) target → Steps p.tables e below (T0.setTop (mkF m 0 #[.val (.double (own_hf x1)), .second, .val (.double (own_hf x2)), .second, .val (.double (own_hf x3)), .second, .val (.double (own_hf x4)), .second, .val (.ref a8)] [])) target := by
  obtain ⟨T6, h6, X6, e6, E6, A6, D6, -, st6⟩ := newO X0 hx hZ hown (hw _ (List.mem_of_getElem? (i := 34) rfl)) (hw _ (List.mem_of_getElem? (i := 35) rfl)) (hw _ (List.mem_of_getElem? (i := 36) rfl)) e0 (g := (mkF m 1 #[.val (.double (own_hf x1)), .second, .val (.double (own_hf x2)), .second, .val (.double (own_hf x3)), .second, .val (.double (own_hf x4)), .second, .val (.ref a8)] [(.double (own_hf x1))])) rfl (hb hby d6_1) (Nat.le_trans (Nat.add_le_add_right hcl 1) (by decide)) (Nat.le_trans (Nat.add_le_add_right hsl 4) (by decide))
  obtain ⟨b6, g6⟩ : ∃ z, z = h0.size := ⟨_, rfl⟩
  rw [← g6] at A6 D6 st6
  have F_value_b6 : Fld Z h6 b6 "java/lang/AbstractStringBuilder" "value" "[B" .null := D6 (Or.inl (hw _ (List.mem_of_getElem? (i := 49) rfl))) (ty := (.array .byte)) (by decide)
  have F_coder_b6 : Fld Z h6 b6 "java/lang/AbstractStringBuilder" "coder" "B" (.int (0 : Int32)) := D6 (Or.inl (hw _ (List.mem_of_getElem? (i := 51) rfl))) (ty := .byte) (by decide)
  have F_count_b6 : Fld Z h6 b6 "java/lang/AbstractStringBuilder" "count" "I" (.int (0 : Int32)) := D6 (Or.inl (hw _ (List.mem_of_getElem? (i := 76) rfl))) (ty := .int) (by decide)
  have g_b6 : n0 ≤ b6 := Nat.le_trans Z0 (Nat.le_of_eq g6.symm)
  have sz_b6 : h0.size ≤ b6 := Nat.le_of_eq g6.symm
  have K6 : Keep h0 h6 [] := (Keep.refl h0 []).ext E6
  have O6 := O.ext E6
  have Z6 := Nat.le_trans Z0 E6.1
  obtain ⟨_, _, ⟨T7, L7, k7, n7⟩, -, X7, ⟨Lc7, hQ7, l7, y7, z7⟩, st7⟩ := X6.specialBack hx (y := (⟨"java/lang/StringBuilder", "<init>", "()V"⟩ : MethodName)) rfl hown (mvT hZ (hw _ (List.mem_of_getElem? (i := 37) rfl))) (mvT hZ (hw _ (List.mem_of_getElem? (i := 38) rfl))) (mvT hZ (hw _ (List.mem_of_getElem? (i := 39) rfl))) (by decide) (backOf (W := 3) (r7 l Z a0 hw [] b6 _ _ h6 n0 Z6 A6 F_value_b6 g_b6 F_coder_b6 F_count_b6 (CS.ext O6.2)) hZ (hw _ (List.mem_of_getElem? (i := 39) rfl)) (hw _ (List.mem_of_getElem? (i := 36) rfl)) (by decide) (by decide)) (g := (mkF m 5 #[.val (.double (own_hf x1)), .second, .val (.double (own_hf x2)), .second, .val (.double (own_hf x3)), .second, .val (.double (own_hf x4)), .second, .val (.ref a8)] [(.ref b6), (.ref b6), (.double (own_hf x1))])) rfl (by rw [hml]; rfl) (Steps.refl _) (a := b6) (argsL := []) (rest := [(.ref b6), (.double (own_hf x1))]) (lenOf pd_6_2 rfl) rfl (by show 2 * 0 + _ ≤ _; exact Nat.le_of_eq rfl) (hb hby d6_5) (fun _ _ => ⟨rfl, e6, (Nat.le_trans (Nat.add_le_add_right hcl 2) (by decide)), (Nat.le_trans (Nat.add_le_add_right hsl 20) (by decide))⟩)
  dsimp only [Pt.U, Pt.locs, Pt.cells, Pt.slots] at X7 l7 y7 z7 st7 hQ7
  subst l7 y7 z7
  obtain ⟨rfl, N7q, K7, SB7⟩ := hQ7
  have N7 := Fr.app N0 N7q
  have Z7 := Nat.le_trans Z6 K7.1
  have O7 := O6.keep K7 (allS g_b6 all0)
  have S87 := (S8.keep0 K6).keep1 K7 A6 (by decide) (hw _ (List.mem_of_getElem? (i := 35) rfl))
  have g_t : n0 ≤ h6.size := Z6
  have KA : Keep h0 T7.heap [] := K6.trans K7 (allS (Or.inr sz_b6) all0)
  obtain ⟨cq8, kq8, q8a, q8b, q8c⟩ := isOf hZ rfl SB7.1
  obtain ⟨_, _, ⟨T8, L8, k8, n8⟩, -, X8, ⟨Lc8, hQ8, l8, y8, z8⟩, st8⟩ := X7.virtualBack hx (y := (⟨"java/lang/StringBuilder", "append", "(Ljava/lang/String;)Ljava/lang/StringBuilder;"⟩ : MethodName)) (z := (⟨"java/lang/StringBuilder", "append", "(Ljava/lang/String;)Ljava/lang/StringBuilder;"⟩ : MethodName)) hown (mvT hZ (hw _ (List.mem_of_getElem? (i := 52) rfl))) (mvT hZ (hw _ (List.mem_of_getElem? (i := 53) rfl))) (notFace_of_selects (args := #[]) (mvT hZ (hw _ (List.mem_of_getElem? (i := 55) rfl)))) (mvT hZ (hw _ (List.mem_of_getElem? (i := 55) rfl))) (mvT hZ (hw _ (List.mem_of_getElem? (i := 54) rfl))) (by decide) (backOf (W := 2) (r9a l Z a0 hw [] b6 a8 h6.size T7.heap n0 Z7 SB7 S87 g_b6 g_t CS O7) hZ (hw _ (List.mem_of_getElem? (i := 56) rfl)) (hw _ (List.mem_of_getElem? (i := 36) rfl)) (by decide) (by decide)) q8a q8c (g := (mkF m 10 #[.val (.double (own_hf x1)), .second, .val (.double (own_hf x2)), .second, .val (.double (own_hf x3)), .second, .val (.double (own_hf x4)), .second, .val (.ref a8)] [(.ref a8), (.ref b6), (.double (own_hf x1))])) rfl (by rw [hml]; rfl) (Steps.refl _) (argsL := [(.ref a8)]) (rest := [(.double (own_hf x1))]) (lenOf pd_6_5 rfl) rfl (by show 2 * 0 + _ ≤ _; exact Nat.le_of_eq rfl) (hb hby d6_10) (fun _ _ => ⟨rfl, rfl, (Nat.le_trans (Nat.add_le_add_right hcl 2) (by decide)), (Nat.le_trans (Nat.add_le_add_right hsl 20) (by decide))⟩)
  dsimp only [Pt.U, Pt.locs, Pt.cells, Pt.slots] at X8 l8 y8 z8 st8 hQ8
  subst l8 y8 z8
  obtain ⟨rfl, N8q, K8, SB8⟩ := hQ8
  have N8 := Fr.app N7 N8q
  have KB : Keep h0 T8.heap [] := KA.trans K8 (allS (Or.inr sz_b6) (allS (Or.inr E6.1) all0))
  have Z8 := Nat.le_trans Z0 KB.1
  have O8 := O.keep KB all0
  have C8 : CHv Z own_EL vm0 T8.heap := hC.keep KB all0
  obtain ⟨a, T9, h9, k1, bb, kb, X9, e9, E9, S9, hk9, hZ9, hown9, Ea, Fc, Fv, Va, la, lb, C9, L9, hs9, st9⟩ := ldcCH (s := s) (vm0 := vm0) (EL := own_EL) X8 hx hZ hown (hw _ (List.mem_of_getElem? (i := 102) rfl)) hwS rfl hS (Nat.le_trans hk KB.1) hEL (by decide) C8 (vs := own_vs35) (z := 17) own_tx35 (by decide) rfl (g := (mkF m 13 #[.val (.double (own_hf x1)), .second, .val (.double (own_hf x2)), .second, .val (.double (own_hf x3)), .second, .val (.double (own_hf x4)), .second, .val (.ref a8)] [(.ref b6), (.double (own_hf x1))])) rfl (hb hby d6_13) (n := 72) (by rw [own_tl35]; decide) (by decide) (Nat.le_trans (Nat.add_le_add_right hcl 4) (by decide)) (Nat.le_trans (Nat.add_le_add_right hsl 96) (by decide))
  have Sl : own_Str Z h9 a 17 := ⟨Ea, Fc, bb, kb, _, Fv, Va⟩
  have KE : Keep T8.heap h9 [] := (Keep.refl _ []).ext E9
  have SB9 := SB8.keep0 KE
  have Z9 := Nat.le_trans Z8 E9.1
  have O9 := O8.ext E9
  obtain ⟨cqA, kqA, qAa, qAb, qAc⟩ := isOf hZ9 e9 SB9.1
  obtain ⟨_, _, ⟨TA, LA, kA, nA⟩, -, XA, ⟨LcA, hQA, lA, yA, zA⟩, stA⟩ := X9.virtualBack hx (y := (⟨"java/lang/StringBuilder", "append", "(Ljava/lang/String;)Ljava/lang/StringBuilder;"⟩ : MethodName)) (z := (⟨"java/lang/StringBuilder", "append", "(Ljava/lang/String;)Ljava/lang/StringBuilder;"⟩ : MethodName)) hown9 (mvT hZ9 (hw _ (List.mem_of_getElem? (i := 52) rfl))) (mvT hZ9 (hw _ (List.mem_of_getElem? (i := 53) rfl))) (notFace_of_selects (args := #[]) (mvT hZ9 (hw _ (List.mem_of_getElem? (i := 55) rfl)))) (mvT hZ9 (hw _ (List.mem_of_getElem? (i := 55) rfl))) (mvT hZ9 (hw _ (List.mem_of_getElem? (i := 54) rfl))) (by decide) (backOf (W := 2) (r9g l Z a0 hw [] b6 a h6.size 17 h9 n0 Z9 SB9 Sl g_b6 g_t CS O9 (by decide)) hZ9 (hw _ (List.mem_of_getElem? (i := 56) rfl)) (hw _ (List.mem_of_getElem? (i := 36) rfl)) (by decide) (by decide)) qAa qAc (g := (mkF m 15 #[.val (.double (own_hf x1)), .second, .val (.double (own_hf x2)), .second, .val (.double (own_hf x3)), .second, .val (.double (own_hf x4)), .second, .val (.ref a8)] [(.ref a), (.ref b6), (.double (own_hf x1))])) rfl (by rw [hml]; rfl) (Steps.refl _) (argsL := [(.ref a)]) (rest := [(.double (own_hf x1))]) (lenOf pd_6_5 rfl) rfl (by show 2 * 0 + _ ≤ _; exact Nat.le_of_eq rfl) (hb hby d6_15) (fun _ _ => ⟨rfl, e9, (Nat.le_trans (Nat.add_le_add_right hcl 5) (by decide)), (Nat.le_trans (Nat.add_le_add_right hsl 130) (by decide))⟩)
  dsimp only [Pt.U, Pt.locs, Pt.cells, Pt.slots] at XA lA yA zA stA hQA
  subst lA yA zA
  obtain ⟨rfl, NAq, KA2, SBA⟩ := hQA
  have NA := Fr.app N8 NAq
  have ZA := Nat.le_trans Z9 KA2.1
  have OA := O9.keep KA2 (allS g_b6 all0)
  have SBq : own_SBv Z TA.heap b6 20 34 h9.size := SBA
  obtain ⟨cqB, kqB, qBa, qBb, qBc⟩ := isOf hZ9 rfl SBA.1
  obtain ⟨_, _, ⟨TB, LB, kB, nB⟩, -, XB, ⟨LcB, hQB, lB, yB, zB⟩, stB⟩ := XA.virtualBack hx (y := (⟨"java/lang/StringBuilder", "toString", "()Ljava/lang/String;"⟩ : MethodName)) (z := (⟨"java/lang/StringBuilder", "toString", "()Ljava/lang/String;"⟩ : MethodName)) hown9 (mvT hZ9 (hw _ (List.mem_of_getElem? (i := 121) rfl))) (mvT hZ9 (hw _ (List.mem_of_getElem? (i := 122) rfl))) (notFace_of_selects (args := #[]) (mvT hZ9 (hw _ (List.mem_of_getElem? (i := 124) rfl)))) (mvT hZ9 (hw _ (List.mem_of_getElem? (i := 124) rfl))) (mvT hZ9 (hw _ (List.mem_of_getElem? (i := 123) rfl))) (by decide) (backOf (W := 2) (r20_20 l Z a0 hw [] b6 h9.size TA.heap n0 ZA SBq (CS.ext OA.2)) hZ9 (hw _ (List.mem_of_getElem? (i := 125) rfl)) (hw _ (List.mem_of_getElem? (i := 36) rfl)) (by decide) (by decide)) qBa qBc (g := (mkF m 18 #[.val (.double (own_hf x1)), .second, .val (.double (own_hf x2)), .second, .val (.double (own_hf x3)), .second, .val (.double (own_hf x4)), .second, .val (.ref a8)] [(.ref b6), (.double (own_hf x1))])) rfl (by rw [hml]; rfl) (Steps.refl _) (argsL := []) (rest := [(.double (own_hf x1))]) (lenOf own_pdT rfl) rfl (by show 2 * 0 + _ ≤ _; exact Nat.le_of_eq rfl) (hb hby d6_18) (fun _ _ => ⟨rfl, rfl, (Nat.le_trans (Nat.add_le_add_right hcl 7) (by decide)), (Nat.le_trans (Nat.add_le_add_right hsl 154) (by decide))⟩)
  dsimp only [Pt.U, Pt.locs, Pt.cells, Pt.slots] at XB lB yB zB stB hQB
  subst lB yB zB
  obtain ⟨rfl, NBq, KB2, SB2⟩ := hQB
  have NB := Fr.app NA NBq
  have ZB := Nat.le_trans ZA KB2.1
  obtain ⟨_, _, ⟨TC, LC, kC, nC⟩, -, XC, ⟨LcC, hQC, lC, yC, zC⟩, stC⟩ := Jvm.LawKit.callS XB hx (y := (⟨"com/example/tidegrid/tidegrid/GreatCircle", "requireLatitude", "(DLjava/lang/String;)V"⟩ : MethodName)) hown9 (mvT hZ9 (hw _ (List.mem_of_getElem? (i := 162) rfl))) (mvT hZ9 (hw _ (List.mem_of_getElem? (i := 163) rfl))) (mvT hZ9 (hw _ (List.mem_of_getElem? (i := 164) rfl))) (mvT hZ9 (hw _ (List.mem_of_getElem? (i := 165) rfl))) (by decide) (backOf (W := 0) (r30 l Z a0 hw [] x1 TA.heap.size TB.heap n0 ZB hR hlo hhi) hZ9 (hw _ (List.mem_of_getElem? (i := 165) rfl)) (hw _ (List.mem_of_getElem? (i := 164) rfl)) (by decide) (by decide)) (g := (mkF m 21 #[.val (.double (own_hf x1)), .second, .val (.double (own_hf x2)), .second, .val (.double (own_hf x3)), .second, .val (.double (own_hf x4)), .second, .val (.ref a8)] [(.ref TA.heap.size), (.double (own_hf x1))])) rfl (by rw [hml]; rfl) (argsL := [(.double (own_hf x1)), (.ref TA.heap.size)]) (rest := []) (lenOf own_pdR rfl) rfl (by show 2 * 0 + _ ≤ _; exact Nat.le_of_eq rfl) (hb hby d6_21) (fun _ _ => ⟨rfl, rfl, (Nat.le_trans (Nat.add_le_add_right hcl 7) (by decide)), (Nat.le_trans (Nat.add_le_add_right hsl 154) (by decide))⟩)
  dsimp only [Pt.U, Pt.locs, Pt.cells, Pt.slots] at XC lC yC zC stC hQC
  subst lC yC zC
  obtain ⟨rfl, NCq, eC⟩ := hQC
  have NC := Fr.app NB NCq
  have KK : Keep h0 TB.heap [] := ((KB.trans KE all0).trans KA2 (allS (Or.inr sz_b6) all0)).trans KB2 all0
  have CT : CHr Z own_EL vm0 h0 T9.vm TB.heap := (((CHr.keep KB all0 hC).trans C9).trans (CHr.keep KA2 (allS (Safe.exa hZ9.alike SB9.1 (by decide) (by decide)) all0) C9.1)).trans (CHr.keep KB2 all0 (CHv.keep KA2 (allS (Safe.exa hZ9.alike SB9.1 (by decide) (by decide)) all0) C9.1))
  refine ⟨TC, T9.vm, _, k1, XC, S9, by rw [eC]; exact Nat.le_trans hk9 (Nat.le_trans KA2.1 KB2.1), hZ9, hown9, NC, by rw [eC]; exact KK, by rw [eC]; exact CT, fun target kt => ?_⟩
  show Steps p.tables e below (T0.setTop (mkF m 0 #[.val (.double (own_hf x1)), .second, .val (.double (own_hf x2)), .second, .val (.double (own_hf x3)), .second, .val (.double (own_hf x4)), .second, .val (.ref a8)] [])) _
  refine own_dloadN X0.here hx rfl (hb hby d6_0) rfl ?_
  show Steps p.tables e below (T0.setTop (mkF m 1 #[.val (.double (own_hf x1)), .second, .val (.double (own_hf x2)), .second, .val (.double (own_hf x3)), .second, .val (.double (own_hf x4)), .second, .val (.ref a8)] [(.double (own_hf x1))])) _
  refine st6 _ ?_
  show Steps p.tables e below (T6.setTop (mkF m 4 #[.val (.double (own_hf x1)), .second, .val (.double (own_hf x2)), .second, .val (.double (own_hf x3)), .second, .val (.double (own_hf x4)), .second, .val (.ref a8)] [(.ref b6), (.double (own_hf x1))])) _
  refine XS.dup X6.here hx rfl (hb hby d6_4) rfl rfl ?_
  show Steps p.tables e below (T6.setTop (mkF m 5 #[.val (.double (own_hf x1)), .second, .val (.double (own_hf x2)), .second, .val (.double (own_hf x3)), .second, .val (.double (own_hf x4)), .second, .val (.ref a8)] [(.ref b6), (.ref b6), (.double (own_hf x1))])) _
  refine st7.trans ?_
  show Steps p.tables e below (T7.setTop (mkF m 8 #[.val (.double (own_hf x1)), .second, .val (.double (own_hf x2)), .second, .val (.double (own_hf x3)), .second, .val (.double (own_hf x4)), .second, .val (.ref a8)] [(.ref b6), (.double (own_hf x1))])) _
  refine XS.aload X7.here hx rfl (hb hby d6_8) rfl rfl ?_
  show Steps p.tables e below (T7.setTop (mkF m 10 #[.val (.double (own_hf x1)), .second, .val (.double (own_hf x2)), .second, .val (.double (own_hf x3)), .second, .val (.double (own_hf x4)), .second, .val (.ref a8)] [(.ref a8), (.ref b6), (.double (own_hf x1))])) _
  refine st8.trans ?_
  show Steps p.tables e below (T8.setTop (mkF m 13 #[.val (.double (own_hf x1)), .second, .val (.double (own_hf x2)), .second, .val (.double (own_hf x3)), .second, .val (.double (own_hf x4)), .second, .val (.ref a8)] [(.ref b6), (.double (own_hf x1))])) _
  refine st9 _ ?_
  show Steps p.tables e below (T9.setTop (mkF m 15 #[.val (.double (own_hf x1)), .second, .val (.double (own_hf x2)), .second, .val (.double (own_hf x3)), .second, .val (.double (own_hf x4)), .second, .val (.ref a8)] [(.ref a), (.ref b6), (.double (own_hf x1))])) _
  refine stA.trans ?_
  show Steps p.tables e below (TA.setTop (mkF m 18 #[.val (.double (own_hf x1)), .second, .val (.double (own_hf x2)), .second, .val (.double (own_hf x3)), .second, .val (.double (own_hf x4)), .second, .val (.ref a8)] [(.ref b6), (.double (own_hf x1))])) _
  refine stB.trans ?_
  show Steps p.tables e below (TB.setTop (mkF m 21 #[.val (.double (own_hf x1)), .second, .val (.double (own_hf x2)), .second, .val (.double (own_hf x3)), .second, .val (.double (own_hf x4)), .second, .val (.ref a8)] [(.ref TA.heap.size), (.double (own_hf x1))])) _
  refine stC _ ?_
  exact kt
set_option maxRecDepth 65536 in
set_option maxHeartbeats 40000000 in
theorem own_ck2 {p : Program} {l : Launch} {e : Env} {s : State} {m : MethodId} {args : Array Value} {below : List Frame} {meth : Method} {c : Code} {T0 : State} {locs : List Loc} {cells slots : Nat} {Z : State} {a0 : Array Value} {h0 : Heap} {vm0 : Vm} {k0 : Nat} (x1 x2 x3 x4 : Int32) (a8 : Addr) (n0 : Nat)
    (X0 : Stand p l e own_R6 (s.setVm vm0) m args below meth c T0 locs cells slots) (hS : s.Since vm0 k0) (hk : k0 ≤ h0.size) (hx : p.tables.exec = Jvm.exec) (hZ : Z.Warmed39 (s.setVm vm0).vm) (hw : ∀ d ∈ tables_1, d.before a0 Z = true) (hwS : ∀ d ∈ Bundle.stringAtoms, d.before a0 Z = true) (hEL : EW Z a0 own_EL) (hC : CHv Z own_EL vm0 h0) (hby : c.code = prog_17_method_2_code) (hml : c.maxLocals = 9) (hown : (s.setVm vm0).vm.findClass "com/example/tidegrid/tidegrid/Box" = some m.cls) (e0 : T0.heap = h0) (Z0 : n0 ≤ h0.size) (N0 : Fr n0 locs) (hcl : cells ≤ 21) (hsl : slots ≤ 465) (S8 : own_Str Z h0 a8 3) (CS : own_CS Z Z.heap) (O : Old Z n0 h0) (hR : own_Rg x2) (hlo : ¬ x2 < (-360 : Int32)) (hhi : ¬ (360 : Int32) < x2) :
    ∃ (T' : State) (vm' : Vm) (locs' : List Loc) (k : Nat), Stand p l e own_R6 (s.setVm vm') m args below meth c T' locs' (cells + 7) (slots + 155) ∧ s.Since vm' k ∧ k ≤ T'.heap.size ∧ Z.Warmed39 (s.setVm vm').vm ∧ (s.setVm vm').vm.findClass "com/example/tidegrid/tidegrid/Box" = some m.cls ∧ Fr n0 locs' ∧ Keep h0 T'.heap [] ∧ CHr Z own_EL vm0 h0 vm' T'.heap ∧ ∀ target, Steps p.tables e below (T'.setTop (mkF m 48 #[.val (.double (own_hf x1)), .second, .val (.double (own_hf x2)), .second, .val (.double (own_hf x3)), .second, .val (.double (own_hf x4)), .second, .val (.ref a8)] [])) target → Steps p.tables e below (T0.setTop (mkF m 24 #[.val (.double (own_hf x1)), .second, .val (.double (own_hf x2)), .second, .val (.double (own_hf x3)), .second, .val (.double (own_hf x4)), .second, .val (.ref a8)] [])) target := by
  obtain ⟨T6, h6, X6, e6, E6, A6, D6, -, st6⟩ := newO X0 hx hZ hown (hw _ (List.mem_of_getElem? (i := 34) rfl)) (hw _ (List.mem_of_getElem? (i := 35) rfl)) (hw _ (List.mem_of_getElem? (i := 36) rfl)) e0 (g := (mkF m 25 #[.val (.double (own_hf x1)), .second, .val (.double (own_hf x2)), .second, .val (.double (own_hf x3)), .second, .val (.double (own_hf x4)), .second, .val (.ref a8)] [(.double (own_hf x2))])) rfl (hb hby d6_25) (Nat.le_trans (Nat.add_le_add_right hcl 1) (by decide)) (Nat.le_trans (Nat.add_le_add_right hsl 4) (by decide))
  obtain ⟨b6, g6⟩ : ∃ z, z = h0.size := ⟨_, rfl⟩
  rw [← g6] at A6 D6 st6
  have F_value_b6 : Fld Z h6 b6 "java/lang/AbstractStringBuilder" "value" "[B" .null := D6 (Or.inl (hw _ (List.mem_of_getElem? (i := 49) rfl))) (ty := (.array .byte)) (by decide)
  have F_coder_b6 : Fld Z h6 b6 "java/lang/AbstractStringBuilder" "coder" "B" (.int (0 : Int32)) := D6 (Or.inl (hw _ (List.mem_of_getElem? (i := 51) rfl))) (ty := .byte) (by decide)
  have F_count_b6 : Fld Z h6 b6 "java/lang/AbstractStringBuilder" "count" "I" (.int (0 : Int32)) := D6 (Or.inl (hw _ (List.mem_of_getElem? (i := 76) rfl))) (ty := .int) (by decide)
  have g_b6 : n0 ≤ b6 := Nat.le_trans Z0 (Nat.le_of_eq g6.symm)
  have sz_b6 : h0.size ≤ b6 := Nat.le_of_eq g6.symm
  have K6 : Keep h0 h6 [] := (Keep.refl h0 []).ext E6
  have O6 := O.ext E6
  have Z6 := Nat.le_trans Z0 E6.1
  obtain ⟨_, _, ⟨T7, L7, k7, n7⟩, -, X7, ⟨Lc7, hQ7, l7, y7, z7⟩, st7⟩ := X6.specialBack hx (y := (⟨"java/lang/StringBuilder", "<init>", "()V"⟩ : MethodName)) rfl hown (mvT hZ (hw _ (List.mem_of_getElem? (i := 37) rfl))) (mvT hZ (hw _ (List.mem_of_getElem? (i := 38) rfl))) (mvT hZ (hw _ (List.mem_of_getElem? (i := 39) rfl))) (by decide) (backOf (W := 3) (r7 l Z a0 hw [] b6 _ _ h6 n0 Z6 A6 F_value_b6 g_b6 F_coder_b6 F_count_b6 (CS.ext O6.2)) hZ (hw _ (List.mem_of_getElem? (i := 39) rfl)) (hw _ (List.mem_of_getElem? (i := 36) rfl)) (by decide) (by decide)) (g := (mkF m 29 #[.val (.double (own_hf x1)), .second, .val (.double (own_hf x2)), .second, .val (.double (own_hf x3)), .second, .val (.double (own_hf x4)), .second, .val (.ref a8)] [(.ref b6), (.ref b6), (.double (own_hf x2))])) rfl (by rw [hml]; rfl) (Steps.refl _) (a := b6) (argsL := []) (rest := [(.ref b6), (.double (own_hf x2))]) (lenOf pd_6_2 rfl) rfl (by show 2 * 0 + _ ≤ _; exact Nat.le_of_eq rfl) (hb hby d6_29) (fun _ _ => ⟨rfl, e6, (Nat.le_trans (Nat.add_le_add_right hcl 2) (by decide)), (Nat.le_trans (Nat.add_le_add_right hsl 20) (by decide))⟩)
  dsimp only [Pt.U, Pt.locs, Pt.cells, Pt.slots] at X7 l7 y7 z7 st7 hQ7
  subst l7 y7 z7
  obtain ⟨rfl, N7q, K7, SB7⟩ := hQ7
  have N7 := Fr.app N0 N7q
  have Z7 := Nat.le_trans Z6 K7.1
  have O7 := O6.keep K7 (allS g_b6 all0)
  have S87 := (S8.keep0 K6).keep1 K7 A6 (by decide) (hw _ (List.mem_of_getElem? (i := 35) rfl))
  have g_t : n0 ≤ h6.size := Z6
  have KA : Keep h0 T7.heap [] := K6.trans K7 (allS (Or.inr sz_b6) all0)
  obtain ⟨cq8, kq8, q8a, q8b, q8c⟩ := isOf hZ rfl SB7.1
  obtain ⟨_, _, ⟨T8, L8, k8, n8⟩, -, X8, ⟨Lc8, hQ8, l8, y8, z8⟩, st8⟩ := X7.virtualBack hx (y := (⟨"java/lang/StringBuilder", "append", "(Ljava/lang/String;)Ljava/lang/StringBuilder;"⟩ : MethodName)) (z := (⟨"java/lang/StringBuilder", "append", "(Ljava/lang/String;)Ljava/lang/StringBuilder;"⟩ : MethodName)) hown (mvT hZ (hw _ (List.mem_of_getElem? (i := 52) rfl))) (mvT hZ (hw _ (List.mem_of_getElem? (i := 53) rfl))) (notFace_of_selects (args := #[]) (mvT hZ (hw _ (List.mem_of_getElem? (i := 55) rfl)))) (mvT hZ (hw _ (List.mem_of_getElem? (i := 55) rfl))) (mvT hZ (hw _ (List.mem_of_getElem? (i := 54) rfl))) (by decide) (backOf (W := 2) (r9a l Z a0 hw [] b6 a8 h6.size T7.heap n0 Z7 SB7 S87 g_b6 g_t CS O7) hZ (hw _ (List.mem_of_getElem? (i := 56) rfl)) (hw _ (List.mem_of_getElem? (i := 36) rfl)) (by decide) (by decide)) q8a q8c (g := (mkF m 34 #[.val (.double (own_hf x1)), .second, .val (.double (own_hf x2)), .second, .val (.double (own_hf x3)), .second, .val (.double (own_hf x4)), .second, .val (.ref a8)] [(.ref a8), (.ref b6), (.double (own_hf x2))])) rfl (by rw [hml]; rfl) (Steps.refl _) (argsL := [(.ref a8)]) (rest := [(.double (own_hf x2))]) (lenOf pd_6_5 rfl) rfl (by show 2 * 0 + _ ≤ _; exact Nat.le_of_eq rfl) (hb hby d6_34) (fun _ _ => ⟨rfl, rfl, (Nat.le_trans (Nat.add_le_add_right hcl 2) (by decide)), (Nat.le_trans (Nat.add_le_add_right hsl 20) (by decide))⟩)
  dsimp only [Pt.U, Pt.locs, Pt.cells, Pt.slots] at X8 l8 y8 z8 st8 hQ8
  subst l8 y8 z8
  obtain ⟨rfl, N8q, K8, SB8⟩ := hQ8
  have N8 := Fr.app N7 N8q
  have KB : Keep h0 T8.heap [] := KA.trans K8 (allS (Or.inr sz_b6) (allS (Or.inr E6.1) all0))
  have Z8 := Nat.le_trans Z0 KB.1
  have O8 := O.keep KB all0
  have C8 : CHv Z own_EL vm0 T8.heap := hC.keep KB all0
  obtain ⟨a, T9, h9, k1, bb, kb, X9, e9, E9, S9, hk9, hZ9, hown9, Ea, Fc, Fv, Va, la, lb, C9, L9, hs9, st9⟩ := ldcCH (s := s) (vm0 := vm0) (EL := own_EL) X8 hx hZ hown (hw _ (List.mem_of_getElem? (i := 168) rfl)) hwS rfl hS (Nat.le_trans hk KB.1) hEL (by decide) C8 (vs := own_vs47) (z := 18) own_tx47 (by decide) rfl (g := (mkF m 37 #[.val (.double (own_hf x1)), .second, .val (.double (own_hf x2)), .second, .val (.double (own_hf x3)), .second, .val (.double (own_hf x4)), .second, .val (.ref a8)] [(.ref b6), (.double (own_hf x2))])) rfl (hb hby d6_37) (n := 72) (by rw [own_tl47]; decide) (by decide) (Nat.le_trans (Nat.add_le_add_right hcl 4) (by decide)) (Nat.le_trans (Nat.add_le_add_right hsl 96) (by decide))
  have Sl : own_Str Z h9 a 18 := ⟨Ea, Fc, bb, kb, _, Fv, Va⟩
  have KE : Keep T8.heap h9 [] := (Keep.refl _ []).ext E9
  have SB9 := SB8.keep0 KE
  have Z9 := Nat.le_trans Z8 E9.1
  have O9 := O8.ext E9
  obtain ⟨cqA, kqA, qAa, qAb, qAc⟩ := isOf hZ9 e9 SB9.1
  obtain ⟨_, _, ⟨TA, LA, kA, nA⟩, -, XA, ⟨LcA, hQA, lA, yA, zA⟩, stA⟩ := X9.virtualBack hx (y := (⟨"java/lang/StringBuilder", "append", "(Ljava/lang/String;)Ljava/lang/StringBuilder;"⟩ : MethodName)) (z := (⟨"java/lang/StringBuilder", "append", "(Ljava/lang/String;)Ljava/lang/StringBuilder;"⟩ : MethodName)) hown9 (mvT hZ9 (hw _ (List.mem_of_getElem? (i := 52) rfl))) (mvT hZ9 (hw _ (List.mem_of_getElem? (i := 53) rfl))) (notFace_of_selects (args := #[]) (mvT hZ9 (hw _ (List.mem_of_getElem? (i := 55) rfl)))) (mvT hZ9 (hw _ (List.mem_of_getElem? (i := 55) rfl))) (mvT hZ9 (hw _ (List.mem_of_getElem? (i := 54) rfl))) (by decide) (backOf (W := 2) (r9g l Z a0 hw [] b6 a h6.size 18 h9 n0 Z9 SB9 Sl g_b6 g_t CS O9 (by decide)) hZ9 (hw _ (List.mem_of_getElem? (i := 56) rfl)) (hw _ (List.mem_of_getElem? (i := 36) rfl)) (by decide) (by decide)) qAa qAc (g := (mkF m 39 #[.val (.double (own_hf x1)), .second, .val (.double (own_hf x2)), .second, .val (.double (own_hf x3)), .second, .val (.double (own_hf x4)), .second, .val (.ref a8)] [(.ref a), (.ref b6), (.double (own_hf x2))])) rfl (by rw [hml]; rfl) (Steps.refl _) (argsL := [(.ref a)]) (rest := [(.double (own_hf x2))]) (lenOf pd_6_5 rfl) rfl (by show 2 * 0 + _ ≤ _; exact Nat.le_of_eq rfl) (hb hby d6_39) (fun _ _ => ⟨rfl, e9, (Nat.le_trans (Nat.add_le_add_right hcl 5) (by decide)), (Nat.le_trans (Nat.add_le_add_right hsl 130) (by decide))⟩)
  dsimp only [Pt.U, Pt.locs, Pt.cells, Pt.slots] at XA lA yA zA stA hQA
  subst lA yA zA
  obtain ⟨rfl, NAq, KA2, SBA⟩ := hQA
  have NA := Fr.app N8 NAq
  have ZA := Nat.le_trans Z9 KA2.1
  have OA := O9.keep KA2 (allS g_b6 all0)
  have SBq : own_SBv Z TA.heap b6 21 34 h9.size := SBA
  obtain ⟨cqB, kqB, qBa, qBb, qBc⟩ := isOf hZ9 rfl SBA.1
  obtain ⟨_, _, ⟨TB, LB, kB, nB⟩, -, XB, ⟨LcB, hQB, lB, yB, zB⟩, stB⟩ := XA.virtualBack hx (y := (⟨"java/lang/StringBuilder", "toString", "()Ljava/lang/String;"⟩ : MethodName)) (z := (⟨"java/lang/StringBuilder", "toString", "()Ljava/lang/String;"⟩ : MethodName)) hown9 (mvT hZ9 (hw _ (List.mem_of_getElem? (i := 121) rfl))) (mvT hZ9 (hw _ (List.mem_of_getElem? (i := 122) rfl))) (notFace_of_selects (args := #[]) (mvT hZ9 (hw _ (List.mem_of_getElem? (i := 124) rfl)))) (mvT hZ9 (hw _ (List.mem_of_getElem? (i := 124) rfl))) (mvT hZ9 (hw _ (List.mem_of_getElem? (i := 123) rfl))) (by decide) (backOf (W := 2) (r20_21 l Z a0 hw [] b6 h9.size TA.heap n0 ZA SBq (CS.ext OA.2)) hZ9 (hw _ (List.mem_of_getElem? (i := 125) rfl)) (hw _ (List.mem_of_getElem? (i := 36) rfl)) (by decide) (by decide)) qBa qBc (g := (mkF m 42 #[.val (.double (own_hf x1)), .second, .val (.double (own_hf x2)), .second, .val (.double (own_hf x3)), .second, .val (.double (own_hf x4)), .second, .val (.ref a8)] [(.ref b6), (.double (own_hf x2))])) rfl (by rw [hml]; rfl) (Steps.refl _) (argsL := []) (rest := [(.double (own_hf x2))]) (lenOf own_pdT rfl) rfl (by show 2 * 0 + _ ≤ _; exact Nat.le_of_eq rfl) (hb hby d6_42) (fun _ _ => ⟨rfl, rfl, (Nat.le_trans (Nat.add_le_add_right hcl 7) (by decide)), (Nat.le_trans (Nat.add_le_add_right hsl 155) (by decide))⟩)
  dsimp only [Pt.U, Pt.locs, Pt.cells, Pt.slots] at XB lB yB zB stB hQB
  subst lB yB zB
  obtain ⟨rfl, NBq, KB2, SB2⟩ := hQB
  have NB := Fr.app NA NBq
  have ZB := Nat.le_trans ZA KB2.1
  obtain ⟨_, _, ⟨TC, LC, kC, nC⟩, -, XC, ⟨LcC, hQC, lC, yC, zC⟩, stC⟩ := Jvm.LawKit.callS XB hx (y := (⟨"com/example/tidegrid/tidegrid/GreatCircle", "requireLongitude", "(DLjava/lang/String;)V"⟩ : MethodName)) hown9 (mvT hZ9 (hw _ (List.mem_of_getElem? (i := 169) rfl))) (mvT hZ9 (hw _ (List.mem_of_getElem? (i := 170) rfl))) (mvT hZ9 (hw _ (List.mem_of_getElem? (i := 164) rfl))) (mvT hZ9 (hw _ (List.mem_of_getElem? (i := 171) rfl))) (by decide) (backOf (W := 0) (r31 l Z a0 hw [] x2 TA.heap.size TB.heap n0 ZB hR hlo hhi) hZ9 (hw _ (List.mem_of_getElem? (i := 171) rfl)) (hw _ (List.mem_of_getElem? (i := 164) rfl)) (by decide) (by decide)) (g := (mkF m 45 #[.val (.double (own_hf x1)), .second, .val (.double (own_hf x2)), .second, .val (.double (own_hf x3)), .second, .val (.double (own_hf x4)), .second, .val (.ref a8)] [(.ref TA.heap.size), (.double (own_hf x2))])) rfl (by rw [hml]; rfl) (argsL := [(.double (own_hf x2)), (.ref TA.heap.size)]) (rest := []) (lenOf own_pdR rfl) rfl (by show 2 * 0 + _ ≤ _; exact Nat.le_of_eq rfl) (hb hby d6_45) (fun _ _ => ⟨rfl, rfl, (Nat.le_trans (Nat.add_le_add_right hcl 7) (by decide)), (Nat.le_trans (Nat.add_le_add_right hsl 155) (by decide))⟩)
  dsimp only [Pt.U, Pt.locs, Pt.cells, Pt.slots] at XC lC yC zC stC hQC
  subst lC yC zC
  obtain ⟨rfl, NCq, eC⟩ := hQC
  have NC := Fr.app NB NCq
  have KK : Keep h0 TB.heap [] := ((KB.trans KE all0).trans KA2 (allS (Or.inr sz_b6) all0)).trans KB2 all0
  have CT : CHr Z own_EL vm0 h0 T9.vm TB.heap := (((CHr.keep KB all0 hC).trans C9).trans (CHr.keep KA2 (allS (Safe.exa hZ9.alike SB9.1 (by decide) (by decide)) all0) C9.1)).trans (CHr.keep KB2 all0 (CHv.keep KA2 (allS (Safe.exa hZ9.alike SB9.1 (by decide) (by decide)) all0) C9.1))
  refine ⟨TC, T9.vm, _, k1, XC, S9, by rw [eC]; exact Nat.le_trans hk9 (Nat.le_trans KA2.1 KB2.1), hZ9, hown9, NC, by rw [eC]; exact KK, by rw [eC]; exact CT, fun target kt => ?_⟩
  show Steps p.tables e below (T0.setTop (mkF m 24 #[.val (.double (own_hf x1)), .second, .val (.double (own_hf x2)), .second, .val (.double (own_hf x3)), .second, .val (.double (own_hf x4)), .second, .val (.ref a8)] [])) _
  refine own_dloadN X0.here hx rfl (hb hby d6_24) rfl ?_
  show Steps p.tables e below (T0.setTop (mkF m 25 #[.val (.double (own_hf x1)), .second, .val (.double (own_hf x2)), .second, .val (.double (own_hf x3)), .second, .val (.double (own_hf x4)), .second, .val (.ref a8)] [(.double (own_hf x2))])) _
  refine st6 _ ?_
  show Steps p.tables e below (T6.setTop (mkF m 28 #[.val (.double (own_hf x1)), .second, .val (.double (own_hf x2)), .second, .val (.double (own_hf x3)), .second, .val (.double (own_hf x4)), .second, .val (.ref a8)] [(.ref b6), (.double (own_hf x2))])) _
  refine XS.dup X6.here hx rfl (hb hby d6_28) rfl rfl ?_
  show Steps p.tables e below (T6.setTop (mkF m 29 #[.val (.double (own_hf x1)), .second, .val (.double (own_hf x2)), .second, .val (.double (own_hf x3)), .second, .val (.double (own_hf x4)), .second, .val (.ref a8)] [(.ref b6), (.ref b6), (.double (own_hf x2))])) _
  refine st7.trans ?_
  show Steps p.tables e below (T7.setTop (mkF m 32 #[.val (.double (own_hf x1)), .second, .val (.double (own_hf x2)), .second, .val (.double (own_hf x3)), .second, .val (.double (own_hf x4)), .second, .val (.ref a8)] [(.ref b6), (.double (own_hf x2))])) _
  refine XS.aload X7.here hx rfl (hb hby d6_32) rfl rfl ?_
  show Steps p.tables e below (T7.setTop (mkF m 34 #[.val (.double (own_hf x1)), .second, .val (.double (own_hf x2)), .second, .val (.double (own_hf x3)), .second, .val (.double (own_hf x4)), .second, .val (.ref a8)] [(.ref a8), (.ref b6), (.double (own_hf x2))])) _
  refine st8.trans ?_
  show Steps p.tables e below (T8.setTop (mkF m 37 #[.val (.double (own_hf x1)), .second, .val (.double (own_hf x2)), .second, .val (.double (own_hf x3)), .second, .val (.double (own_hf x4)), .second, .val (.ref a8)] [(.ref b6), (.double (own_hf x2))])) _
  refine st9 _ ?_
  show Steps p.tables e below (T9.setTop (mkF m 39 #[.val (.double (own_hf x1)), .second, .val (.double (own_hf x2)), .second, .val (.double (own_hf x3)), .second, .val (.double (own_hf x4)), .second, .val (.ref a8)] [(.ref a), (.ref b6), (.double (own_hf x2))])) _
  refine stA.trans ?_
  show Steps p.tables e below (TA.setTop (mkF m 42 #[.val (.double (own_hf x1)), .second, .val (.double (own_hf x2)), .second, .val (.double (own_hf x3)), .second, .val (.double (own_hf x4)), .second, .val (.ref a8)] [(.ref b6), (.double (own_hf x2))])) _
  refine stB.trans ?_
  show Steps p.tables e below (TB.setTop (mkF m 45 #[.val (.double (own_hf x1)), .second, .val (.double (own_hf x2)), .second, .val (.double (own_hf x3)), .second, .val (.double (own_hf x4)), .second, .val (.ref a8)] [(.ref TA.heap.size), (.double (own_hf x2))])) _
  refine stC _ ?_
  exact kt
set_option maxRecDepth 65536 in
set_option maxHeartbeats 40000000 in
theorem own_ck3 {p : Program} {l : Launch} {e : Env} {s : State} {m : MethodId} {args : Array Value} {below : List Frame} {meth : Method} {c : Code} {T0 : State} {locs : List Loc} {cells slots : Nat} {Z : State} {a0 : Array Value} {h0 : Heap} {vm0 : Vm} {k0 : Nat} (x1 x2 x3 x4 : Int32) (a8 : Addr) (n0 : Nat)
    (X0 : Stand p l e own_R6 (s.setVm vm0) m args below meth c T0 locs cells slots) (hS : s.Since vm0 k0) (hk : k0 ≤ h0.size) (hx : p.tables.exec = Jvm.exec) (hZ : Z.Warmed39 (s.setVm vm0).vm) (hw : ∀ d ∈ tables_1, d.before a0 Z = true) (hwS : ∀ d ∈ Bundle.stringAtoms, d.before a0 Z = true) (hEL : EW Z a0 own_EL) (hC : CHv Z own_EL vm0 h0) (hby : c.code = prog_17_method_2_code) (hml : c.maxLocals = 9) (hown : (s.setVm vm0).vm.findClass "com/example/tidegrid/tidegrid/Box" = some m.cls) (e0 : T0.heap = h0) (Z0 : n0 ≤ h0.size) (N0 : Fr n0 locs) (hcl : cells ≤ 21) (hsl : slots ≤ 465) (S8 : own_Str Z h0 a8 3) (CS : own_CS Z Z.heap) (O : Old Z n0 h0) (hR : own_Rg x3) (hlo : ¬ x3 < (-180 : Int32)) (hhi : ¬ (180 : Int32) < x3) :
    ∃ (T' : State) (vm' : Vm) (locs' : List Loc) (k : Nat), Stand p l e own_R6 (s.setVm vm') m args below meth c T' locs' (cells + 7) (slots + 154) ∧ s.Since vm' k ∧ k ≤ T'.heap.size ∧ Z.Warmed39 (s.setVm vm').vm ∧ (s.setVm vm').vm.findClass "com/example/tidegrid/tidegrid/Box" = some m.cls ∧ Fr n0 locs' ∧ Keep h0 T'.heap [] ∧ CHr Z own_EL vm0 h0 vm' T'.heap ∧ ∀ target, Steps p.tables e below (T'.setTop (mkF m 73 #[.val (.double (own_hf x1)), .second, .val (.double (own_hf x2)), .second, .val (.double (own_hf x3)), .second, .val (.double (own_hf x4)), .second, .val (.ref a8)] [])) target → Steps p.tables e below (T0.setTop (mkF m 48 #[.val (.double (own_hf x1)), .second, .val (.double (own_hf x2)), .second, .val (.double (own_hf x3)), .second, .val (.double (own_hf x4)), .second, .val (.ref a8)] [])) target := by
  obtain ⟨T6, h6, X6, e6, E6, A6, D6, -, st6⟩ := newO X0 hx hZ hown (hw _ (List.mem_of_getElem? (i := 34) rfl)) (hw _ (List.mem_of_getElem? (i := 35) rfl)) (hw _ (List.mem_of_getElem? (i := 36) rfl)) e0 (g := (mkF m 50 #[.val (.double (own_hf x1)), .second, .val (.double (own_hf x2)), .second, .val (.double (own_hf x3)), .second, .val (.double (own_hf x4)), .second, .val (.ref a8)] [(.double (own_hf x3))])) rfl (hb hby d6_50) (Nat.le_trans (Nat.add_le_add_right hcl 1) (by decide)) (Nat.le_trans (Nat.add_le_add_right hsl 4) (by decide))
  obtain ⟨b6, g6⟩ : ∃ z, z = h0.size := ⟨_, rfl⟩
  rw [← g6] at A6 D6 st6
  have F_value_b6 : Fld Z h6 b6 "java/lang/AbstractStringBuilder" "value" "[B" .null := D6 (Or.inl (hw _ (List.mem_of_getElem? (i := 49) rfl))) (ty := (.array .byte)) (by decide)
  have F_coder_b6 : Fld Z h6 b6 "java/lang/AbstractStringBuilder" "coder" "B" (.int (0 : Int32)) := D6 (Or.inl (hw _ (List.mem_of_getElem? (i := 51) rfl))) (ty := .byte) (by decide)
  have F_count_b6 : Fld Z h6 b6 "java/lang/AbstractStringBuilder" "count" "I" (.int (0 : Int32)) := D6 (Or.inl (hw _ (List.mem_of_getElem? (i := 76) rfl))) (ty := .int) (by decide)
  have g_b6 : n0 ≤ b6 := Nat.le_trans Z0 (Nat.le_of_eq g6.symm)
  have sz_b6 : h0.size ≤ b6 := Nat.le_of_eq g6.symm
  have K6 : Keep h0 h6 [] := (Keep.refl h0 []).ext E6
  have O6 := O.ext E6
  have Z6 := Nat.le_trans Z0 E6.1
  obtain ⟨_, _, ⟨T7, L7, k7, n7⟩, -, X7, ⟨Lc7, hQ7, l7, y7, z7⟩, st7⟩ := X6.specialBack hx (y := (⟨"java/lang/StringBuilder", "<init>", "()V"⟩ : MethodName)) rfl hown (mvT hZ (hw _ (List.mem_of_getElem? (i := 37) rfl))) (mvT hZ (hw _ (List.mem_of_getElem? (i := 38) rfl))) (mvT hZ (hw _ (List.mem_of_getElem? (i := 39) rfl))) (by decide) (backOf (W := 3) (r7 l Z a0 hw [] b6 _ _ h6 n0 Z6 A6 F_value_b6 g_b6 F_coder_b6 F_count_b6 (CS.ext O6.2)) hZ (hw _ (List.mem_of_getElem? (i := 39) rfl)) (hw _ (List.mem_of_getElem? (i := 36) rfl)) (by decide) (by decide)) (g := (mkF m 54 #[.val (.double (own_hf x1)), .second, .val (.double (own_hf x2)), .second, .val (.double (own_hf x3)), .second, .val (.double (own_hf x4)), .second, .val (.ref a8)] [(.ref b6), (.ref b6), (.double (own_hf x3))])) rfl (by rw [hml]; rfl) (Steps.refl _) (a := b6) (argsL := []) (rest := [(.ref b6), (.double (own_hf x3))]) (lenOf pd_6_2 rfl) rfl (by show 2 * 0 + _ ≤ _; exact Nat.le_of_eq rfl) (hb hby d6_54) (fun _ _ => ⟨rfl, e6, (Nat.le_trans (Nat.add_le_add_right hcl 2) (by decide)), (Nat.le_trans (Nat.add_le_add_right hsl 20) (by decide))⟩)
  dsimp only [Pt.U, Pt.locs, Pt.cells, Pt.slots] at X7 l7 y7 z7 st7 hQ7
  subst l7 y7 z7
  obtain ⟨rfl, N7q, K7, SB7⟩ := hQ7
  have N7 := Fr.app N0 N7q
  have Z7 := Nat.le_trans Z6 K7.1
  have O7 := O6.keep K7 (allS g_b6 all0)
  have S87 := (S8.keep0 K6).keep1 K7 A6 (by decide) (hw _ (List.mem_of_getElem? (i := 35) rfl))
  have g_t : n0 ≤ h6.size := Z6
  have KA : Keep h0 T7.heap [] := K6.trans K7 (allS (Or.inr sz_b6) all0)
  obtain ⟨cq8, kq8, q8a, q8b, q8c⟩ := isOf hZ rfl SB7.1
  obtain ⟨_, _, ⟨T8, L8, k8, n8⟩, -, X8, ⟨Lc8, hQ8, l8, y8, z8⟩, st8⟩ := X7.virtualBack hx (y := (⟨"java/lang/StringBuilder", "append", "(Ljava/lang/String;)Ljava/lang/StringBuilder;"⟩ : MethodName)) (z := (⟨"java/lang/StringBuilder", "append", "(Ljava/lang/String;)Ljava/lang/StringBuilder;"⟩ : MethodName)) hown (mvT hZ (hw _ (List.mem_of_getElem? (i := 52) rfl))) (mvT hZ (hw _ (List.mem_of_getElem? (i := 53) rfl))) (notFace_of_selects (args := #[]) (mvT hZ (hw _ (List.mem_of_getElem? (i := 55) rfl)))) (mvT hZ (hw _ (List.mem_of_getElem? (i := 55) rfl))) (mvT hZ (hw _ (List.mem_of_getElem? (i := 54) rfl))) (by decide) (backOf (W := 2) (r9a l Z a0 hw [] b6 a8 h6.size T7.heap n0 Z7 SB7 S87 g_b6 g_t CS O7) hZ (hw _ (List.mem_of_getElem? (i := 56) rfl)) (hw _ (List.mem_of_getElem? (i := 36) rfl)) (by decide) (by decide)) q8a q8c (g := (mkF m 59 #[.val (.double (own_hf x1)), .second, .val (.double (own_hf x2)), .second, .val (.double (own_hf x3)), .second, .val (.double (own_hf x4)), .second, .val (.ref a8)] [(.ref a8), (.ref b6), (.double (own_hf x3))])) rfl (by rw [hml]; rfl) (Steps.refl _) (argsL := [(.ref a8)]) (rest := [(.double (own_hf x3))]) (lenOf pd_6_5 rfl) rfl (by show 2 * 0 + _ ≤ _; exact Nat.le_of_eq rfl) (hb hby d6_59) (fun _ _ => ⟨rfl, rfl, (Nat.le_trans (Nat.add_le_add_right hcl 2) (by decide)), (Nat.le_trans (Nat.add_le_add_right hsl 20) (by decide))⟩)
  dsimp only [Pt.U, Pt.locs, Pt.cells, Pt.slots] at X8 l8 y8 z8 st8 hQ8
  subst l8 y8 z8
  obtain ⟨rfl, N8q, K8, SB8⟩ := hQ8
  have N8 := Fr.app N7 N8q
  have KB : Keep h0 T8.heap [] := KA.trans K8 (allS (Or.inr sz_b6) (allS (Or.inr E6.1) all0))
  have Z8 := Nat.le_trans Z0 KB.1
  have O8 := O.keep KB all0
  have C8 : CHv Z own_EL vm0 T8.heap := hC.keep KB all0
  obtain ⟨a, T9, h9, k1, bb, kb, X9, e9, E9, S9, hk9, hZ9, hown9, Ea, Fc, Fv, Va, la, lb, C9, L9, hs9, st9⟩ := ldcCH (s := s) (vm0 := vm0) (EL := own_EL) X8 hx hZ hown (hw _ (List.mem_of_getElem? (i := 174) rfl)) hwS rfl hS (Nat.le_trans hk KB.1) hEL (by decide) C8 (vs := own_vs52) (z := 17) own_tx52 (by decide) rfl (g := (mkF m 62 #[.val (.double (own_hf x1)), .second, .val (.double (own_hf x2)), .second, .val (.double (own_hf x3)), .second, .val (.double (own_hf x4)), .second, .val (.ref a8)] [(.ref b6), (.double (own_hf x3))])) rfl (hb hby d6_62) (n := 72) (by rw [own_tl52]; decide) (by decide) (Nat.le_trans (Nat.add_le_add_right hcl 4) (by decide)) (Nat.le_trans (Nat.add_le_add_right hsl 96) (by decide))
  have Sl : own_Str Z h9 a 17 := ⟨Ea, Fc, bb, kb, _, Fv, Va⟩
  have KE : Keep T8.heap h9 [] := (Keep.refl _ []).ext E9
  have SB9 := SB8.keep0 KE
  have Z9 := Nat.le_trans Z8 E9.1
  have O9 := O8.ext E9
  obtain ⟨cqA, kqA, qAa, qAb, qAc⟩ := isOf hZ9 e9 SB9.1
  obtain ⟨_, _, ⟨TA, LA, kA, nA⟩, -, XA, ⟨LcA, hQA, lA, yA, zA⟩, stA⟩ := X9.virtualBack hx (y := (⟨"java/lang/StringBuilder", "append", "(Ljava/lang/String;)Ljava/lang/StringBuilder;"⟩ : MethodName)) (z := (⟨"java/lang/StringBuilder", "append", "(Ljava/lang/String;)Ljava/lang/StringBuilder;"⟩ : MethodName)) hown9 (mvT hZ9 (hw _ (List.mem_of_getElem? (i := 52) rfl))) (mvT hZ9 (hw _ (List.mem_of_getElem? (i := 53) rfl))) (notFace_of_selects (args := #[]) (mvT hZ9 (hw _ (List.mem_of_getElem? (i := 55) rfl)))) (mvT hZ9 (hw _ (List.mem_of_getElem? (i := 55) rfl))) (mvT hZ9 (hw _ (List.mem_of_getElem? (i := 54) rfl))) (by decide) (backOf (W := 2) (r9g l Z a0 hw [] b6 a h6.size 17 h9 n0 Z9 SB9 Sl g_b6 g_t CS O9 (by decide)) hZ9 (hw _ (List.mem_of_getElem? (i := 56) rfl)) (hw _ (List.mem_of_getElem? (i := 36) rfl)) (by decide) (by decide)) qAa qAc (g := (mkF m 64 #[.val (.double (own_hf x1)), .second, .val (.double (own_hf x2)), .second, .val (.double (own_hf x3)), .second, .val (.double (own_hf x4)), .second, .val (.ref a8)] [(.ref a), (.ref b6), (.double (own_hf x3))])) rfl (by rw [hml]; rfl) (Steps.refl _) (argsL := [(.ref a)]) (rest := [(.double (own_hf x3))]) (lenOf pd_6_5 rfl) rfl (by show 2 * 0 + _ ≤ _; exact Nat.le_of_eq rfl) (hb hby d6_64) (fun _ _ => ⟨rfl, e9, (Nat.le_trans (Nat.add_le_add_right hcl 5) (by decide)), (Nat.le_trans (Nat.add_le_add_right hsl 130) (by decide))⟩)
  dsimp only [Pt.U, Pt.locs, Pt.cells, Pt.slots] at XA lA yA zA stA hQA
  subst lA yA zA
  obtain ⟨rfl, NAq, KA2, SBA⟩ := hQA
  have NA := Fr.app N8 NAq
  have ZA := Nat.le_trans Z9 KA2.1
  have OA := O9.keep KA2 (allS g_b6 all0)
  have SBq : own_SBv Z TA.heap b6 20 34 h9.size := SBA
  obtain ⟨cqB, kqB, qBa, qBb, qBc⟩ := isOf hZ9 rfl SBA.1
  obtain ⟨_, _, ⟨TB, LB, kB, nB⟩, -, XB, ⟨LcB, hQB, lB, yB, zB⟩, stB⟩ := XA.virtualBack hx (y := (⟨"java/lang/StringBuilder", "toString", "()Ljava/lang/String;"⟩ : MethodName)) (z := (⟨"java/lang/StringBuilder", "toString", "()Ljava/lang/String;"⟩ : MethodName)) hown9 (mvT hZ9 (hw _ (List.mem_of_getElem? (i := 121) rfl))) (mvT hZ9 (hw _ (List.mem_of_getElem? (i := 122) rfl))) (notFace_of_selects (args := #[]) (mvT hZ9 (hw _ (List.mem_of_getElem? (i := 124) rfl)))) (mvT hZ9 (hw _ (List.mem_of_getElem? (i := 124) rfl))) (mvT hZ9 (hw _ (List.mem_of_getElem? (i := 123) rfl))) (by decide) (backOf (W := 2) (r20_20 l Z a0 hw [] b6 h9.size TA.heap n0 ZA SBq (CS.ext OA.2)) hZ9 (hw _ (List.mem_of_getElem? (i := 125) rfl)) (hw _ (List.mem_of_getElem? (i := 36) rfl)) (by decide) (by decide)) qBa qBc (g := (mkF m 67 #[.val (.double (own_hf x1)), .second, .val (.double (own_hf x2)), .second, .val (.double (own_hf x3)), .second, .val (.double (own_hf x4)), .second, .val (.ref a8)] [(.ref b6), (.double (own_hf x3))])) rfl (by rw [hml]; rfl) (Steps.refl _) (argsL := []) (rest := [(.double (own_hf x3))]) (lenOf own_pdT rfl) rfl (by show 2 * 0 + _ ≤ _; exact Nat.le_of_eq rfl) (hb hby d6_67) (fun _ _ => ⟨rfl, rfl, (Nat.le_trans (Nat.add_le_add_right hcl 7) (by decide)), (Nat.le_trans (Nat.add_le_add_right hsl 154) (by decide))⟩)
  dsimp only [Pt.U, Pt.locs, Pt.cells, Pt.slots] at XB lB yB zB stB hQB
  subst lB yB zB
  obtain ⟨rfl, NBq, KB2, SB2⟩ := hQB
  have NB := Fr.app NA NBq
  have ZB := Nat.le_trans ZA KB2.1
  obtain ⟨_, _, ⟨TC, LC, kC, nC⟩, -, XC, ⟨LcC, hQC, lC, yC, zC⟩, stC⟩ := Jvm.LawKit.callS XB hx (y := (⟨"com/example/tidegrid/tidegrid/GreatCircle", "requireLatitude", "(DLjava/lang/String;)V"⟩ : MethodName)) hown9 (mvT hZ9 (hw _ (List.mem_of_getElem? (i := 162) rfl))) (mvT hZ9 (hw _ (List.mem_of_getElem? (i := 163) rfl))) (mvT hZ9 (hw _ (List.mem_of_getElem? (i := 164) rfl))) (mvT hZ9 (hw _ (List.mem_of_getElem? (i := 165) rfl))) (by decide) (backOf (W := 0) (r30 l Z a0 hw [] x3 TA.heap.size TB.heap n0 ZB hR hlo hhi) hZ9 (hw _ (List.mem_of_getElem? (i := 165) rfl)) (hw _ (List.mem_of_getElem? (i := 164) rfl)) (by decide) (by decide)) (g := (mkF m 70 #[.val (.double (own_hf x1)), .second, .val (.double (own_hf x2)), .second, .val (.double (own_hf x3)), .second, .val (.double (own_hf x4)), .second, .val (.ref a8)] [(.ref TA.heap.size), (.double (own_hf x3))])) rfl (by rw [hml]; rfl) (argsL := [(.double (own_hf x3)), (.ref TA.heap.size)]) (rest := []) (lenOf own_pdR rfl) rfl (by show 2 * 0 + _ ≤ _; exact Nat.le_of_eq rfl) (hb hby d6_70) (fun _ _ => ⟨rfl, rfl, (Nat.le_trans (Nat.add_le_add_right hcl 7) (by decide)), (Nat.le_trans (Nat.add_le_add_right hsl 154) (by decide))⟩)
  dsimp only [Pt.U, Pt.locs, Pt.cells, Pt.slots] at XC lC yC zC stC hQC
  subst lC yC zC
  obtain ⟨rfl, NCq, eC⟩ := hQC
  have NC := Fr.app NB NCq
  have KK : Keep h0 TB.heap [] := ((KB.trans KE all0).trans KA2 (allS (Or.inr sz_b6) all0)).trans KB2 all0
  have CT : CHr Z own_EL vm0 h0 T9.vm TB.heap := (((CHr.keep KB all0 hC).trans C9).trans (CHr.keep KA2 (allS (Safe.exa hZ9.alike SB9.1 (by decide) (by decide)) all0) C9.1)).trans (CHr.keep KB2 all0 (CHv.keep KA2 (allS (Safe.exa hZ9.alike SB9.1 (by decide) (by decide)) all0) C9.1))
  refine ⟨TC, T9.vm, _, k1, XC, S9, by rw [eC]; exact Nat.le_trans hk9 (Nat.le_trans KA2.1 KB2.1), hZ9, hown9, NC, by rw [eC]; exact KK, by rw [eC]; exact CT, fun target kt => ?_⟩
  show Steps p.tables e below (T0.setTop (mkF m 48 #[.val (.double (own_hf x1)), .second, .val (.double (own_hf x2)), .second, .val (.double (own_hf x3)), .second, .val (.double (own_hf x4)), .second, .val (.ref a8)] [])) _
  refine own_dload X0.here hx rfl (hb hby d6_48) rfl ?_
  show Steps p.tables e below (T0.setTop (mkF m 50 #[.val (.double (own_hf x1)), .second, .val (.double (own_hf x2)), .second, .val (.double (own_hf x3)), .second, .val (.double (own_hf x4)), .second, .val (.ref a8)] [(.double (own_hf x3))])) _
  refine st6 _ ?_
  show Steps p.tables e below (T6.setTop (mkF m 53 #[.val (.double (own_hf x1)), .second, .val (.double (own_hf x2)), .second, .val (.double (own_hf x3)), .second, .val (.double (own_hf x4)), .second, .val (.ref a8)] [(.ref b6), (.double (own_hf x3))])) _
  refine XS.dup X6.here hx rfl (hb hby d6_53) rfl rfl ?_
  show Steps p.tables e below (T6.setTop (mkF m 54 #[.val (.double (own_hf x1)), .second, .val (.double (own_hf x2)), .second, .val (.double (own_hf x3)), .second, .val (.double (own_hf x4)), .second, .val (.ref a8)] [(.ref b6), (.ref b6), (.double (own_hf x3))])) _
  refine st7.trans ?_
  show Steps p.tables e below (T7.setTop (mkF m 57 #[.val (.double (own_hf x1)), .second, .val (.double (own_hf x2)), .second, .val (.double (own_hf x3)), .second, .val (.double (own_hf x4)), .second, .val (.ref a8)] [(.ref b6), (.double (own_hf x3))])) _
  refine XS.aload X7.here hx rfl (hb hby d6_57) rfl rfl ?_
  show Steps p.tables e below (T7.setTop (mkF m 59 #[.val (.double (own_hf x1)), .second, .val (.double (own_hf x2)), .second, .val (.double (own_hf x3)), .second, .val (.double (own_hf x4)), .second, .val (.ref a8)] [(.ref a8), (.ref b6), (.double (own_hf x3))])) _
  refine st8.trans ?_
  show Steps p.tables e below (T8.setTop (mkF m 62 #[.val (.double (own_hf x1)), .second, .val (.double (own_hf x2)), .second, .val (.double (own_hf x3)), .second, .val (.double (own_hf x4)), .second, .val (.ref a8)] [(.ref b6), (.double (own_hf x3))])) _
  refine st9 _ ?_
  show Steps p.tables e below (T9.setTop (mkF m 64 #[.val (.double (own_hf x1)), .second, .val (.double (own_hf x2)), .second, .val (.double (own_hf x3)), .second, .val (.double (own_hf x4)), .second, .val (.ref a8)] [(.ref a), (.ref b6), (.double (own_hf x3))])) _
  refine stA.trans ?_
  show Steps p.tables e below (TA.setTop (mkF m 67 #[.val (.double (own_hf x1)), .second, .val (.double (own_hf x2)), .second, .val (.double (own_hf x3)), .second, .val (.double (own_hf x4)), .second, .val (.ref a8)] [(.ref b6), (.double (own_hf x3))])) _
  refine stB.trans ?_
  show Steps p.tables e below (TB.setTop (mkF m 70 #[.val (.double (own_hf x1)), .second, .val (.double (own_hf x2)), .second, .val (.double (own_hf x3)), .second, .val (.double (own_hf x4)), .second, .val (.ref a8)] [(.ref TA.heap.size), (.double (own_hf x3))])) _
  refine stC _ ?_
  exact kt
set_option maxRecDepth 65536 in
set_option maxHeartbeats 40000000 in
theorem own_ck4 {p : Program} {l : Launch} {e : Env} {s : State} {m : MethodId} {args : Array Value} {below : List Frame} {meth : Method} {c : Code} {T0 : State} {locs : List Loc} {cells slots : Nat} {Z : State} {a0 : Array Value} {h0 : Heap} {vm0 : Vm} {k0 : Nat} (x1 x2 x3 x4 : Int32) (a8 : Addr) (n0 : Nat)
    (X0 : Stand p l e own_R6 (s.setVm vm0) m args below meth c T0 locs cells slots) (hS : s.Since vm0 k0) (hk : k0 ≤ h0.size) (hx : p.tables.exec = Jvm.exec) (hZ : Z.Warmed39 (s.setVm vm0).vm) (hw : ∀ d ∈ tables_1, d.before a0 Z = true) (hwS : ∀ d ∈ Bundle.stringAtoms, d.before a0 Z = true) (hEL : EW Z a0 own_EL) (hC : CHv Z own_EL vm0 h0) (hby : c.code = prog_17_method_2_code) (hml : c.maxLocals = 9) (hown : (s.setVm vm0).vm.findClass "com/example/tidegrid/tidegrid/Box" = some m.cls) (e0 : T0.heap = h0) (Z0 : n0 ≤ h0.size) (N0 : Fr n0 locs) (hcl : cells ≤ 21) (hsl : slots ≤ 465) (S8 : own_Str Z h0 a8 3) (CS : own_CS Z Z.heap) (O : Old Z n0 h0) (hR : own_Rg x4) (hlo : ¬ x4 < (-360 : Int32)) (hhi : ¬ (360 : Int32) < x4) :
    ∃ (T' : State) (vm' : Vm) (locs' : List Loc) (k : Nat), Stand p l e own_R6 (s.setVm vm') m args below meth c T' locs' (cells + 7) (slots + 155) ∧ s.Since vm' k ∧ k ≤ T'.heap.size ∧ Z.Warmed39 (s.setVm vm').vm ∧ (s.setVm vm').vm.findClass "com/example/tidegrid/tidegrid/Box" = some m.cls ∧ Fr n0 locs' ∧ Keep h0 T'.heap [] ∧ CHr Z own_EL vm0 h0 vm' T'.heap ∧ ∀ target, Steps p.tables e below (T'.setTop (mkF m 98 #[.val (.double (own_hf x1)), .second, .val (.double (own_hf x2)), .second, .val (.double (own_hf x3)), .second, .val (.double (own_hf x4)), .second, .val (.ref a8)] [])) target → Steps p.tables e below (T0.setTop (mkF m 73 #[.val (.double (own_hf x1)), .second, .val (.double (own_hf x2)), .second, .val (.double (own_hf x3)), .second, .val (.double (own_hf x4)), .second, .val (.ref a8)] [])) target := by
  obtain ⟨T6, h6, X6, e6, E6, A6, D6, -, st6⟩ := newO X0 hx hZ hown (hw _ (List.mem_of_getElem? (i := 34) rfl)) (hw _ (List.mem_of_getElem? (i := 35) rfl)) (hw _ (List.mem_of_getElem? (i := 36) rfl)) e0 (g := (mkF m 75 #[.val (.double (own_hf x1)), .second, .val (.double (own_hf x2)), .second, .val (.double (own_hf x3)), .second, .val (.double (own_hf x4)), .second, .val (.ref a8)] [(.double (own_hf x4))])) rfl (hb hby d6_75) (Nat.le_trans (Nat.add_le_add_right hcl 1) (by decide)) (Nat.le_trans (Nat.add_le_add_right hsl 4) (by decide))
  obtain ⟨b6, g6⟩ : ∃ z, z = h0.size := ⟨_, rfl⟩
  rw [← g6] at A6 D6 st6
  have F_value_b6 : Fld Z h6 b6 "java/lang/AbstractStringBuilder" "value" "[B" .null := D6 (Or.inl (hw _ (List.mem_of_getElem? (i := 49) rfl))) (ty := (.array .byte)) (by decide)
  have F_coder_b6 : Fld Z h6 b6 "java/lang/AbstractStringBuilder" "coder" "B" (.int (0 : Int32)) := D6 (Or.inl (hw _ (List.mem_of_getElem? (i := 51) rfl))) (ty := .byte) (by decide)
  have F_count_b6 : Fld Z h6 b6 "java/lang/AbstractStringBuilder" "count" "I" (.int (0 : Int32)) := D6 (Or.inl (hw _ (List.mem_of_getElem? (i := 76) rfl))) (ty := .int) (by decide)
  have g_b6 : n0 ≤ b6 := Nat.le_trans Z0 (Nat.le_of_eq g6.symm)
  have sz_b6 : h0.size ≤ b6 := Nat.le_of_eq g6.symm
  have K6 : Keep h0 h6 [] := (Keep.refl h0 []).ext E6
  have O6 := O.ext E6
  have Z6 := Nat.le_trans Z0 E6.1
  obtain ⟨_, _, ⟨T7, L7, k7, n7⟩, -, X7, ⟨Lc7, hQ7, l7, y7, z7⟩, st7⟩ := X6.specialBack hx (y := (⟨"java/lang/StringBuilder", "<init>", "()V"⟩ : MethodName)) rfl hown (mvT hZ (hw _ (List.mem_of_getElem? (i := 37) rfl))) (mvT hZ (hw _ (List.mem_of_getElem? (i := 38) rfl))) (mvT hZ (hw _ (List.mem_of_getElem? (i := 39) rfl))) (by decide) (backOf (W := 3) (r7 l Z a0 hw [] b6 _ _ h6 n0 Z6 A6 F_value_b6 g_b6 F_coder_b6 F_count_b6 (CS.ext O6.2)) hZ (hw _ (List.mem_of_getElem? (i := 39) rfl)) (hw _ (List.mem_of_getElem? (i := 36) rfl)) (by decide) (by decide)) (g := (mkF m 79 #[.val (.double (own_hf x1)), .second, .val (.double (own_hf x2)), .second, .val (.double (own_hf x3)), .second, .val (.double (own_hf x4)), .second, .val (.ref a8)] [(.ref b6), (.ref b6), (.double (own_hf x4))])) rfl (by rw [hml]; rfl) (Steps.refl _) (a := b6) (argsL := []) (rest := [(.ref b6), (.double (own_hf x4))]) (lenOf pd_6_2 rfl) rfl (by show 2 * 0 + _ ≤ _; exact Nat.le_of_eq rfl) (hb hby d6_79) (fun _ _ => ⟨rfl, e6, (Nat.le_trans (Nat.add_le_add_right hcl 2) (by decide)), (Nat.le_trans (Nat.add_le_add_right hsl 20) (by decide))⟩)
  dsimp only [Pt.U, Pt.locs, Pt.cells, Pt.slots] at X7 l7 y7 z7 st7 hQ7
  subst l7 y7 z7
  obtain ⟨rfl, N7q, K7, SB7⟩ := hQ7
  have N7 := Fr.app N0 N7q
  have Z7 := Nat.le_trans Z6 K7.1
  have O7 := O6.keep K7 (allS g_b6 all0)
  have S87 := (S8.keep0 K6).keep1 K7 A6 (by decide) (hw _ (List.mem_of_getElem? (i := 35) rfl))
  have g_t : n0 ≤ h6.size := Z6
  have KA : Keep h0 T7.heap [] := K6.trans K7 (allS (Or.inr sz_b6) all0)
  obtain ⟨cq8, kq8, q8a, q8b, q8c⟩ := isOf hZ rfl SB7.1
  obtain ⟨_, _, ⟨T8, L8, k8, n8⟩, -, X8, ⟨Lc8, hQ8, l8, y8, z8⟩, st8⟩ := X7.virtualBack hx (y := (⟨"java/lang/StringBuilder", "append", "(Ljava/lang/String;)Ljava/lang/StringBuilder;"⟩ : MethodName)) (z := (⟨"java/lang/StringBuilder", "append", "(Ljava/lang/String;)Ljava/lang/StringBuilder;"⟩ : MethodName)) hown (mvT hZ (hw _ (List.mem_of_getElem? (i := 52) rfl))) (mvT hZ (hw _ (List.mem_of_getElem? (i := 53) rfl))) (notFace_of_selects (args := #[]) (mvT hZ (hw _ (List.mem_of_getElem? (i := 55) rfl)))) (mvT hZ (hw _ (List.mem_of_getElem? (i := 55) rfl))) (mvT hZ (hw _ (List.mem_of_getElem? (i := 54) rfl))) (by decide) (backOf (W := 2) (r9a l Z a0 hw [] b6 a8 h6.size T7.heap n0 Z7 SB7 S87 g_b6 g_t CS O7) hZ (hw _ (List.mem_of_getElem? (i := 56) rfl)) (hw _ (List.mem_of_getElem? (i := 36) rfl)) (by decide) (by decide)) q8a q8c (g := (mkF m 84 #[.val (.double (own_hf x1)), .second, .val (.double (own_hf x2)), .second, .val (.double (own_hf x3)), .second, .val (.double (own_hf x4)), .second, .val (.ref a8)] [(.ref a8), (.ref b6), (.double (own_hf x4))])) rfl (by rw [hml]; rfl) (Steps.refl _) (argsL := [(.ref a8)]) (rest := [(.double (own_hf x4))]) (lenOf pd_6_5 rfl) rfl (by show 2 * 0 + _ ≤ _; exact Nat.le_of_eq rfl) (hb hby d6_84) (fun _ _ => ⟨rfl, rfl, (Nat.le_trans (Nat.add_le_add_right hcl 2) (by decide)), (Nat.le_trans (Nat.add_le_add_right hsl 20) (by decide))⟩)
  dsimp only [Pt.U, Pt.locs, Pt.cells, Pt.slots] at X8 l8 y8 z8 st8 hQ8
  subst l8 y8 z8
  obtain ⟨rfl, N8q, K8, SB8⟩ := hQ8
  have N8 := Fr.app N7 N8q
  have KB : Keep h0 T8.heap [] := KA.trans K8 (allS (Or.inr sz_b6) (allS (Or.inr E6.1) all0))
  have Z8 := Nat.le_trans Z0 KB.1
  have O8 := O.keep KB all0
  have C8 : CHv Z own_EL vm0 T8.heap := hC.keep KB all0
  obtain ⟨a, T9, h9, k1, bb, kb, X9, e9, E9, S9, hk9, hZ9, hown9, Ea, Fc, Fv, Va, la, lb, C9, L9, hs9, st9⟩ := ldcCH (s := s) (vm0 := vm0) (EL := own_EL) X8 hx hZ hown (hw _ (List.mem_of_getElem? (i := 175) rfl)) hwS rfl hS (Nat.le_trans hk KB.1) hEL (by decide) C8 (vs := own_vs54) (z := 18) own_tx54 (by decide) rfl (g := (mkF m 87 #[.val (.double (own_hf x1)), .second, .val (.double (own_hf x2)), .second, .val (.double (own_hf x3)), .second, .val (.double (own_hf x4)), .second, .val (.ref a8)] [(.ref b6), (.double (own_hf x4))])) rfl (hb hby d6_87) (n := 72) (by rw [own_tl54]; decide) (by decide) (Nat.le_trans (Nat.add_le_add_right hcl 4) (by decide)) (Nat.le_trans (Nat.add_le_add_right hsl 96) (by decide))
  have Sl : own_Str Z h9 a 18 := ⟨Ea, Fc, bb, kb, _, Fv, Va⟩
  have KE : Keep T8.heap h9 [] := (Keep.refl _ []).ext E9
  have SB9 := SB8.keep0 KE
  have Z9 := Nat.le_trans Z8 E9.1
  have O9 := O8.ext E9
  obtain ⟨cqA, kqA, qAa, qAb, qAc⟩ := isOf hZ9 e9 SB9.1
  obtain ⟨_, _, ⟨TA, LA, kA, nA⟩, -, XA, ⟨LcA, hQA, lA, yA, zA⟩, stA⟩ := X9.virtualBack hx (y := (⟨"java/lang/StringBuilder", "append", "(Ljava/lang/String;)Ljava/lang/StringBuilder;"⟩ : MethodName)) (z := (⟨"java/lang/StringBuilder", "append", "(Ljava/lang/String;)Ljava/lang/StringBuilder;"⟩ : MethodName)) hown9 (mvT hZ9 (hw _ (List.mem_of_getElem? (i := 52) rfl))) (mvT hZ9 (hw _ (List.mem_of_getElem? (i := 53) rfl))) (notFace_of_selects (args := #[]) (mvT hZ9 (hw _ (List.mem_of_getElem? (i := 55) rfl)))) (mvT hZ9 (hw _ (List.mem_of_getElem? (i := 55) rfl))) (mvT hZ9 (hw _ (List.mem_of_getElem? (i := 54) rfl))) (by decide) (backOf (W := 2) (r9g l Z a0 hw [] b6 a h6.size 18 h9 n0 Z9 SB9 Sl g_b6 g_t CS O9 (by decide)) hZ9 (hw _ (List.mem_of_getElem? (i := 56) rfl)) (hw _ (List.mem_of_getElem? (i := 36) rfl)) (by decide) (by decide)) qAa qAc (g := (mkF m 89 #[.val (.double (own_hf x1)), .second, .val (.double (own_hf x2)), .second, .val (.double (own_hf x3)), .second, .val (.double (own_hf x4)), .second, .val (.ref a8)] [(.ref a), (.ref b6), (.double (own_hf x4))])) rfl (by rw [hml]; rfl) (Steps.refl _) (argsL := [(.ref a)]) (rest := [(.double (own_hf x4))]) (lenOf pd_6_5 rfl) rfl (by show 2 * 0 + _ ≤ _; exact Nat.le_of_eq rfl) (hb hby d6_89) (fun _ _ => ⟨rfl, e9, (Nat.le_trans (Nat.add_le_add_right hcl 5) (by decide)), (Nat.le_trans (Nat.add_le_add_right hsl 130) (by decide))⟩)
  dsimp only [Pt.U, Pt.locs, Pt.cells, Pt.slots] at XA lA yA zA stA hQA
  subst lA yA zA
  obtain ⟨rfl, NAq, KA2, SBA⟩ := hQA
  have NA := Fr.app N8 NAq
  have ZA := Nat.le_trans Z9 KA2.1
  have OA := O9.keep KA2 (allS g_b6 all0)
  have SBq : own_SBv Z TA.heap b6 21 34 h9.size := SBA
  obtain ⟨cqB, kqB, qBa, qBb, qBc⟩ := isOf hZ9 rfl SBA.1
  obtain ⟨_, _, ⟨TB, LB, kB, nB⟩, -, XB, ⟨LcB, hQB, lB, yB, zB⟩, stB⟩ := XA.virtualBack hx (y := (⟨"java/lang/StringBuilder", "toString", "()Ljava/lang/String;"⟩ : MethodName)) (z := (⟨"java/lang/StringBuilder", "toString", "()Ljava/lang/String;"⟩ : MethodName)) hown9 (mvT hZ9 (hw _ (List.mem_of_getElem? (i := 121) rfl))) (mvT hZ9 (hw _ (List.mem_of_getElem? (i := 122) rfl))) (notFace_of_selects (args := #[]) (mvT hZ9 (hw _ (List.mem_of_getElem? (i := 124) rfl)))) (mvT hZ9 (hw _ (List.mem_of_getElem? (i := 124) rfl))) (mvT hZ9 (hw _ (List.mem_of_getElem? (i := 123) rfl))) (by decide) (backOf (W := 2) (r20_21 l Z a0 hw [] b6 h9.size TA.heap n0 ZA SBq (CS.ext OA.2)) hZ9 (hw _ (List.mem_of_getElem? (i := 125) rfl)) (hw _ (List.mem_of_getElem? (i := 36) rfl)) (by decide) (by decide)) qBa qBc (g := (mkF m 92 #[.val (.double (own_hf x1)), .second, .val (.double (own_hf x2)), .second, .val (.double (own_hf x3)), .second, .val (.double (own_hf x4)), .second, .val (.ref a8)] [(.ref b6), (.double (own_hf x4))])) rfl (by rw [hml]; rfl) (Steps.refl _) (argsL := []) (rest := [(.double (own_hf x4))]) (lenOf own_pdT rfl) rfl (by show 2 * 0 + _ ≤ _; exact Nat.le_of_eq rfl) (hb hby d6_92) (fun _ _ => ⟨rfl, rfl, (Nat.le_trans (Nat.add_le_add_right hcl 7) (by decide)), (Nat.le_trans (Nat.add_le_add_right hsl 155) (by decide))⟩)
  dsimp only [Pt.U, Pt.locs, Pt.cells, Pt.slots] at XB lB yB zB stB hQB
  subst lB yB zB
  obtain ⟨rfl, NBq, KB2, SB2⟩ := hQB
  have NB := Fr.app NA NBq
  have ZB := Nat.le_trans ZA KB2.1
  obtain ⟨_, _, ⟨TC, LC, kC, nC⟩, -, XC, ⟨LcC, hQC, lC, yC, zC⟩, stC⟩ := Jvm.LawKit.callS XB hx (y := (⟨"com/example/tidegrid/tidegrid/GreatCircle", "requireLongitude", "(DLjava/lang/String;)V"⟩ : MethodName)) hown9 (mvT hZ9 (hw _ (List.mem_of_getElem? (i := 169) rfl))) (mvT hZ9 (hw _ (List.mem_of_getElem? (i := 170) rfl))) (mvT hZ9 (hw _ (List.mem_of_getElem? (i := 164) rfl))) (mvT hZ9 (hw _ (List.mem_of_getElem? (i := 171) rfl))) (by decide) (backOf (W := 0) (r31 l Z a0 hw [] x4 TA.heap.size TB.heap n0 ZB hR hlo hhi) hZ9 (hw _ (List.mem_of_getElem? (i := 171) rfl)) (hw _ (List.mem_of_getElem? (i := 164) rfl)) (by decide) (by decide)) (g := (mkF m 95 #[.val (.double (own_hf x1)), .second, .val (.double (own_hf x2)), .second, .val (.double (own_hf x3)), .second, .val (.double (own_hf x4)), .second, .val (.ref a8)] [(.ref TA.heap.size), (.double (own_hf x4))])) rfl (by rw [hml]; rfl) (argsL := [(.double (own_hf x4)), (.ref TA.heap.size)]) (rest := []) (lenOf own_pdR rfl) rfl (by show 2 * 0 + _ ≤ _; exact Nat.le_of_eq rfl) (hb hby d6_95) (fun _ _ => ⟨rfl, rfl, (Nat.le_trans (Nat.add_le_add_right hcl 7) (by decide)), (Nat.le_trans (Nat.add_le_add_right hsl 155) (by decide))⟩)
  dsimp only [Pt.U, Pt.locs, Pt.cells, Pt.slots] at XC lC yC zC stC hQC
  subst lC yC zC
  obtain ⟨rfl, NCq, eC⟩ := hQC
  have NC := Fr.app NB NCq
  have KK : Keep h0 TB.heap [] := ((KB.trans KE all0).trans KA2 (allS (Or.inr sz_b6) all0)).trans KB2 all0
  have CT : CHr Z own_EL vm0 h0 T9.vm TB.heap := (((CHr.keep KB all0 hC).trans C9).trans (CHr.keep KA2 (allS (Safe.exa hZ9.alike SB9.1 (by decide) (by decide)) all0) C9.1)).trans (CHr.keep KB2 all0 (CHv.keep KA2 (allS (Safe.exa hZ9.alike SB9.1 (by decide) (by decide)) all0) C9.1))
  refine ⟨TC, T9.vm, _, k1, XC, S9, by rw [eC]; exact Nat.le_trans hk9 (Nat.le_trans KA2.1 KB2.1), hZ9, hown9, NC, by rw [eC]; exact KK, by rw [eC]; exact CT, fun target kt => ?_⟩
  show Steps p.tables e below (T0.setTop (mkF m 73 #[.val (.double (own_hf x1)), .second, .val (.double (own_hf x2)), .second, .val (.double (own_hf x3)), .second, .val (.double (own_hf x4)), .second, .val (.ref a8)] [])) _
  refine own_dload X0.here hx rfl (hb hby d6_73) rfl ?_
  show Steps p.tables e below (T0.setTop (mkF m 75 #[.val (.double (own_hf x1)), .second, .val (.double (own_hf x2)), .second, .val (.double (own_hf x3)), .second, .val (.double (own_hf x4)), .second, .val (.ref a8)] [(.double (own_hf x4))])) _
  refine st6 _ ?_
  show Steps p.tables e below (T6.setTop (mkF m 78 #[.val (.double (own_hf x1)), .second, .val (.double (own_hf x2)), .second, .val (.double (own_hf x3)), .second, .val (.double (own_hf x4)), .second, .val (.ref a8)] [(.ref b6), (.double (own_hf x4))])) _
  refine XS.dup X6.here hx rfl (hb hby d6_78) rfl rfl ?_
  show Steps p.tables e below (T6.setTop (mkF m 79 #[.val (.double (own_hf x1)), .second, .val (.double (own_hf x2)), .second, .val (.double (own_hf x3)), .second, .val (.double (own_hf x4)), .second, .val (.ref a8)] [(.ref b6), (.ref b6), (.double (own_hf x4))])) _
  refine st7.trans ?_
  show Steps p.tables e below (T7.setTop (mkF m 82 #[.val (.double (own_hf x1)), .second, .val (.double (own_hf x2)), .second, .val (.double (own_hf x3)), .second, .val (.double (own_hf x4)), .second, .val (.ref a8)] [(.ref b6), (.double (own_hf x4))])) _
  refine XS.aload X7.here hx rfl (hb hby d6_82) rfl rfl ?_
  show Steps p.tables e below (T7.setTop (mkF m 84 #[.val (.double (own_hf x1)), .second, .val (.double (own_hf x2)), .second, .val (.double (own_hf x3)), .second, .val (.double (own_hf x4)), .second, .val (.ref a8)] [(.ref a8), (.ref b6), (.double (own_hf x4))])) _
  refine st8.trans ?_
  show Steps p.tables e below (T8.setTop (mkF m 87 #[.val (.double (own_hf x1)), .second, .val (.double (own_hf x2)), .second, .val (.double (own_hf x3)), .second, .val (.double (own_hf x4)), .second, .val (.ref a8)] [(.ref b6), (.double (own_hf x4))])) _
  refine st9 _ ?_
  show Steps p.tables e below (T9.setTop (mkF m 89 #[.val (.double (own_hf x1)), .second, .val (.double (own_hf x2)), .second, .val (.double (own_hf x3)), .second, .val (.double (own_hf x4)), .second, .val (.ref a8)] [(.ref a), (.ref b6), (.double (own_hf x4))])) _
  refine stA.trans ?_
  show Steps p.tables e below (TA.setTop (mkF m 92 #[.val (.double (own_hf x1)), .second, .val (.double (own_hf x2)), .second, .val (.double (own_hf x3)), .second, .val (.double (own_hf x4)), .second, .val (.ref a8)] [(.ref b6), (.double (own_hf x4))])) _
  refine stB.trans ?_
  show Steps p.tables e below (TB.setTop (mkF m 95 #[.val (.double (own_hf x1)), .second, .val (.double (own_hf x2)), .second, .val (.double (own_hf x3)), .second, .val (.double (own_hf x4)), .second, .val (.ref a8)] [(.ref TA.heap.size), (.double (own_hf x4))])) _
  refine stC _ ?_
  exact kt
def QE (h0 : Heap) (n0 : Nat) (v : Option Value) (h : Heap) (L : List Loc) : Prop := v = none ∧ Fr n0 L ∧ Keep h0 h []
set_option maxRecDepth 65536 in
set_option maxHeartbeats 40000000 in
theorem r6 (l : Launch) (Z : State) (a0 : Array Value) (hw : ∀ d ∈ tables_1, d.before a0 Z = true) (hwS : ∀ d ∈ Bundle.stringAtoms, d.before a0 Z = true) (hEL : EW Z a0 own_EL) (ws : List Jvm.Cond) (x1 x2 x3 x4 : Int32) (a8 : Addr) (h0 : Heap) (n0 : Nat) (Z0 : n0 ≤ h0.size) (S8 : own_Str Z h0 a8 3) (CS : own_CS Z Z.heap) (O : Old Z n0 h0) (R1 : own_Rg x1) (R2 : own_Rg x2) (R3 : own_Rg x3) (R4 : own_Rg x4) (l1 : ¬ x1 < (-180 : Int32)) (l2 : ¬ x2 < (-360 : Int32)) (l3 : ¬ x3 < (-180 : Int32)) (l4 : ¬ x4 < (-360 : Int32)) (u1_ : ¬ (180 : Int32) < x1) (u2_ : ¬ (360 : Int32) < x2) (u3_ : ¬ (180 : Int32) < x3) (u4_ : ¬ (360 : Int32) < x4) (o1 : ¬ x3 < x1) (o2 : ¬ x4 < x2) :
    MetFree l (⟨"com/example/tidegrid/tidegrid/Box", "requireEdges", "(DDDDLjava/lang/String;)V"⟩ : MethodName) (head1 (Jvm.Cond.code (⟨"com/example/tidegrid/tidegrid/Box", "requireEdges", "(DDDDLjava/lang/String;)V"⟩ : MethodName) prog_17_method_2_code 9 none :: ws) own_R6) (fun a U => a = #[(.double (own_hf x1)), (.double (own_hf x2)), (.double (own_hf x3)), (.double (own_hf x4)), (.ref a8)] ∧ Z.Warmed39 U.vm ∧ U.heap = h0 ∧ CHv Z own_EL U.vm h0) (fun _ _ _ _ _ => True) (fun _ U o U' => ∃ v L, o = .returned v ∧ QE h0 n0 v U'.heap L ∧ CHr Z own_EL U.vm U.heap U'.vm U'.heap ∧ ReturnedEndW U o U' L own_R6.cells own_R6.slots) := by
  refine MetFree.of_bodySF (plainFor_of_name pn_6) hisR ?_
  intro p e s m args below meth c s₁ Bd hml0 hP hK
  obtain ⟨rfl, hZ, hh, hC⟩ := hP
  have hx := Bd.exec
  have hby := Bd.bytes
  have hml : c.maxLocals = 9 := hml0
  have hown : s.vm.findClass "com/example/tidegrid/tidegrid/Box" = some m.cls := findClass_of_methodNamed Bd.named
  have hnm := (name_of_methodNamed Bd.named Bd.method).1
  have X0 : Stand p l e own_R6 s m #[(.double (own_hf x1)), (.double (own_hf x2)), (.double (own_hf x3)), (.double (own_hf x4)), (.ref a8)] below meth c s₁ [] 0 0 := Stand.of_body Bd
  have e0 : s₁.heap = h0 := by rw [← hh, Bd.state]; rfl
  have N0 := Fr.nil n0
  have pre0 : ∀ t, Steps p.tables e below (s₁.setTop (mkF m 0 #[.val (.double (own_hf x1)), .second, .val (.double (own_hf x2)), .second, .val (.double (own_hf x3)), .second, .val (.double (own_hf x4)), .second, .val (.ref a8)] [])) t → Steps p.tables e below (s₁.setTop (entryFrame m #[(.double (own_hf x1)), (.double (own_hf x2)), (.double (own_hf x3)), (.double (own_hf x4)), (.ref a8)] 9)) t := fun t k => castTop (ef_6 m (own_hf x1) (own_hf x2) (own_hf x3) (own_hf x4) a8) k
  obtain ⟨T1, vm1, L1, k1, X1, S1, hk1, hZ1, hown1, N1, K1, C1, st1⟩ := own_ck1 (s := s) (vm0 := s.vm) (k0 := 0) x1 x2 x3 x4 a8 n0 X0 own_noW (Nat.zero_le _) hx hZ hw hwS hEL hC hby hml hown e0 Z0 N0 (by decide) (by decide) S8 CS O R1 l1 u1_
  have Z1 := Nat.le_trans Z0 K1.1
  have S81 := S8.keep0 K1
  have O1 := O.keep K1 all0
  obtain ⟨T2, vm2, L2, k2, X2, S2, hk2, hZ2, hown2, N2, K2, C2, st2⟩ := own_ck2 (s := s) (vm0 := vm1) x1 x2 x3 x4 a8 n0 X1 S1 hk1 hx hZ1 hw hwS hEL C1.1 hby hml hown1 rfl Z1 N1 (by decide) (by decide) S81 CS O1 R2 l2 u2_
  have Z2 := Nat.le_trans Z1 K2.1
  have S82 := S81.keep0 K2
  have O2 := O1.keep K2 all0
  obtain ⟨T3, vm3, L3, k3, X3, S3, hk3, hZ3, hown3, N3, K3, C3, st3⟩ := own_ck3 (s := s) (vm0 := vm2) x1 x2 x3 x4 a8 n0 X2 S2 hk2 hx hZ2 hw hwS hEL C2.1 hby hml hown2 rfl Z2 N2 (by decide) (by decide) S82 CS O2 R3 l3 u3_
  have Z3 := Nat.le_trans Z2 K3.1
  have S83 := S82.keep0 K3
  have O3 := O2.keep K3 all0
  obtain ⟨T4, vm4, L4, k4, X4, S4, hk4, hZ4, hown4, N4, K4, C4, st4⟩ := own_ck4 (s := s) (vm0 := vm3) x1 x2 x3 x4 a8 n0 X3 S3 hk3 hx hZ3 hw hwS hEL C3.1 hby hml hown3 rfl Z3 N3 (by decide) (by decide) S83 CS O3 R4 l4 u4_
  have KK : Keep h0 T4.heap [] := ((K1.trans K2 all0).trans K3 all0).trans K4 all0
  have CT := (((C1.trans C2).trans C3).trans C4).trans (CHv.at X4 hZ4 hEL C4.1)
  obtain ⟨fs, hr, hrun, hended, hRW⟩ := X4.leaveW S4 hk4 (v := none) (fun _ => rfl)
  refine ⟨_, _, pre0 _ ?_, hrun, hended, _, _, rfl, ?_, ?_, ⟨hRW.1, hRW.2.1, hRW.2.2.1, hRW.2.2.2.mono (by decide) (by decide)⟩⟩
  · refine st1 _ (st2 _ (st3 _ (st4 _ ?_)))
    show Steps p.tables e below (T4.setTop (mkF m 98 #[.val (.double (own_hf x1)), .second, .val (.double (own_hf x2)), .second, .val (.double (own_hf x3)), .second, .val (.double (own_hf x4)), .second, .val (.ref a8)] [])) _
    refine own_dloadN X4.here hx rfl (hb hby d6_98) rfl ?_
    show Steps p.tables e below (T4.setTop (mkF m 99 #[.val (.double (own_hf x1)), .second, .val (.double (own_hf x2)), .second, .val (.double (own_hf x3)), .second, .val (.double (own_hf x4)), .second, .val (.ref a8)] [(.double (own_hf x1))])) _
    refine own_dload X4.here hx rfl (hb hby d6_99) rfl ?_
    show Steps p.tables e below (T4.setTop (mkF m 101 #[.val (.double (own_hf x1)), .second, .val (.double (own_hf x2)), .second, .val (.double (own_hf x3)), .second, .val (.double (own_hf x4)), .second, .val (.ref a8)] [(.double (own_hf x3)), (.double (own_hf x1))])) _
    refine own_dcmp X4.here hx rfl (hb hby d6_101) rfl (k := own_ci x1 x3) (own_hcmp x1 x3 R1 R3 _) ?_
    show Steps p.tables e below (T4.setTop (mkF m 102 #[.val (.double (own_hf x1)), .second, .val (.double (own_hf x2)), .second, .val (.double (own_hf x3)), .second, .val (.double (own_hf x4)), .second, .val (.ref a8)] [(.int (own_ci x1 x3))])) _
    refine XS.ifYes X4.here hx rfl (pc0 := 102) (pc' := 147) rfl (hb hby d6_102) rfl ((if0 _ _).trans (flt (fun q => o1 ((own_ci_gt _ _).mp q) : ¬ ((0 : Int32) < own_ci x1 x3))).2.2.2) (by decide) (by decide) ?_
    show Steps p.tables e below (T4.setTop (mkF m 147 #[.val (.double (own_hf x1)), .second, .val (.double (own_hf x2)), .second, .val (.double (own_hf x3)), .second, .val (.double (own_hf x4)), .second, .val (.ref a8)] [])) _
    refine own_dloadN X4.here hx rfl (hb hby d6_147) rfl ?_
    show Steps p.tables e below (T4.setTop (mkF m 148 #[.val (.double (own_hf x1)), .second, .val (.double (own_hf x2)), .second, .val (.double (own_hf x3)), .second, .val (.double (own_hf x4)), .second, .val (.ref a8)] [(.double (own_hf x2))])) _
    refine own_dload X4.here hx rfl (hb hby d6_148) rfl ?_
    show Steps p.tables e below (T4.setTop (mkF m 150 #[.val (.double (own_hf x1)), .second, .val (.double (own_hf x2)), .second, .val (.double (own_hf x3)), .second, .val (.double (own_hf x4)), .second, .val (.ref a8)] [(.double (own_hf x4)), (.double (own_hf x2))])) _
    refine own_dcmp X4.here hx rfl (hb hby d6_150) rfl (k := own_ci x2 x4) (own_hcmp x2 x4 R2 R4 _) ?_
    show Steps p.tables e below (T4.setTop (mkF m 151 #[.val (.double (own_hf x1)), .second, .val (.double (own_hf x2)), .second, .val (.double (own_hf x3)), .second, .val (.double (own_hf x4)), .second, .val (.ref a8)] [(.int (own_ci x2 x4))])) _
    refine XS.ifYes X4.here hx rfl (pc0 := 151) (pc' := 196) rfl (hb hby d6_151) rfl ((if0 _ _).trans (flt (fun q => o2 ((own_ci_gt _ _).mp q) : ¬ ((0 : Int32) < own_ci x2 x4))).2.2.2) (by decide) (by decide) ?_
    show Steps p.tables e below (T4.setTop (mkF m 196 #[.val (.double (own_hf x1)), .second, .val (.double (own_hf x2)), .second, .val (.double (own_hf x3)), .second, .val (.double (own_hf x4)), .second, .val (.ref a8)] [])) _
    exact X4.returnOut hx Bd.returns (hb hby d6_196) hr
  · exact ⟨rfl, N4, KK⟩
  · show CHr Z own_EL s.vm s.heap T4.vm T4.heap
    rw [hh]
    exact CT
theorem d3_0 : decode prog_17_method_1_code 0 = .ok (.aload_n 0, 1) := by decide +kernel
theorem d3_1 : decode prog_17_method_1_code 1 = .ok (.invokespecial 1, 3) := by decide +kernel
theorem d3_4 : decode prog_17_method_1_code 4 = .ok (.dload_n 1, 1) := by decide +kernel
theorem d3_5 : decode prog_17_method_1_code 5 = .ok (.dload_n 3, 1) := by decide +kernel
theorem d3_6 : decode prog_17_method_1_code 6 = .ok (.dload 5, 2) := by decide +kernel
theorem d3_8 : decode prog_17_method_1_code 8 = .ok (.dload 7, 2) := by decide +kernel
theorem d3_10 : decode prog_17_method_1_code 10 = .ok (.ldc 7, 2) := by decide +kernel
theorem pn_3 : plainName "com/example/tidegrid/tidegrid/Box" = true := by first | (simp [plainName, overriddenIn]; done) | decide +kernel
theorem pd_3_2 : parseMethodDescriptor "()V" = some ⟨[], none⟩ := by decide +kernel
theorem ef_3 (m : MethodId) (x0 : Addr) (x1 : UInt64) (x2 : UInt64) (x3 : UInt64) (x4 : UInt64) : entryFrame m #[(.ref x0), (.double x1), (.double x2), (.double x3), (.double x4)] 9 = mkF m 0 #[.val (.ref x0), .val (.double x1), .second, .val (.double x2), .second, .val (.double x3), .second, .val (.double x4), .second] [] := by first | (simp [entryFrame, mkF, argsToLocals, Value.category]; done) | rfl
theorem d3_12 : decode prog_17_method_1_code 12 = .ok (.invokestatic 9, 3) := by decide +kernel
theorem d3_15 : decode prog_17_method_1_code 15 = .ok (.aload_n 0, 1) := by decide +kernel
theorem d3_16 : decode prog_17_method_1_code 16 = .ok (.dload_n 1, 1) := by decide +kernel
theorem d3_17 : decode prog_17_method_1_code 17 = .ok (.putfield 15, 3) := by decide +kernel
theorem d3_20 : decode prog_17_method_1_code 20 = .ok (.aload_n 0, 1) := by decide +kernel
theorem d3_21 : decode prog_17_method_1_code 21 = .ok (.dload_n 3, 1) := by decide +kernel
theorem d3_22 : decode prog_17_method_1_code 22 = .ok (.putfield 19, 3) := by decide +kernel
theorem d3_25 : decode prog_17_method_1_code 25 = .ok (.aload_n 0, 1) := by decide +kernel
theorem d3_26 : decode prog_17_method_1_code 26 = .ok (.dload 5, 2) := by decide +kernel
theorem d3_28 : decode prog_17_method_1_code 28 = .ok (.putfield 22, 3) := by decide +kernel
theorem d3_31 : decode prog_17_method_1_code 31 = .ok (.aload_n 0, 1) := by decide +kernel
theorem d3_32 : decode prog_17_method_1_code 32 = .ok (.dload 7, 2) := by decide +kernel
theorem d3_34 : decode prog_17_method_1_code 34 = .ok (.putfield 25, 3) := by decide +kernel
theorem d3_37 : decode prog_17_method_1_code 37 = .ok (.return_, 1) := by decide +kernel
abbrev own_R3 : Room := ({ frames := 7, cells := 30, slots := 640, locals := 130 } : Room)
def own_Bx (Z : State) (h : Heap) (a : Addr) (v1 v2 v3 v4 : UInt64) : Prop := Exa Z h a "com/example/tidegrid/tidegrid/Box" ∧ Fld Z h a "com/example/tidegrid/tidegrid/Box" "minLat" "D" (.double v1) ∧ Fld Z h a "com/example/tidegrid/tidegrid/Box" "minLon" "D" (.double v2) ∧ Fld Z h a "com/example/tidegrid/tidegrid/Box" "maxLat" "D" (.double v3) ∧ Fld Z h a "com/example/tidegrid/tidegrid/Box" "maxLon" "D" (.double v4)
set_option maxRecDepth 65536 in
set_option maxHeartbeats 40000000 in
theorem own_bx {p : Program} {l : Launch} {e : Env} {s : State} {m : MethodId} {args : Array Value} {below : List Frame} {meth : Method} {c : Code} {T0 : State} {locs : List Loc} {cells slots : Nat} {Z : State} {a0 : Array Value} {h0 : Heap} (o0 : Addr) (u1 : UInt64) (u3 : UInt64) (u5 : UInt64) (u7 : UInt64) (u_minLat_o0 : Value) (u_minLon_o0 : Value) (u_maxLat_o0 : Value) (u_maxLon_o0 : Value) (n0 : Nat)
    (X0 : Stand p l e own_R3 s m args below meth c T0 locs cells slots) (hx : p.tables.exec = Jvm.exec) (hZ : Z.Warmed39 s.vm) (hw : ∀ d ∈ tables_1, d.before a0 Z = true) (hby : c.code = prog_17_method_1_code) (hml : c.maxLocals = 9) (hown : s.vm.findClass "com/example/tidegrid/tidegrid/Box" = some m.cls) (e0 : T0.heap = h0) (hnm : meth.name = "<init>") (Z0 : n0 ≤ h0.size) (N0 : Fr n0 locs) (hcl : cells ≤ own_R3.cells) (hsl : slots ≤ own_R3.slots) (E_o0 : Exa Z h0 o0 "com/example/tidegrid/tidegrid/Box") (F_minLat_o0 : Fld Z h0 o0 "com/example/tidegrid/tidegrid/Box" "minLat" "D" u_minLat_o0) (g_o0 : n0 ≤ o0) (F_minLon_o0 : Fld Z h0 o0 "com/example/tidegrid/tidegrid/Box" "minLon" "D" u_minLon_o0) (F_maxLat_o0 : Fld Z h0 o0 "com/example/tidegrid/tidegrid/Box" "maxLat" "D" u_maxLat_o0) (F_maxLon_o0 : Fld Z h0 o0 "com/example/tidegrid/tidegrid/Box" "maxLon" "D" u_maxLon_o0) :
    ∃ (T' : State) (locs' : List Loc), Stand p l e own_R3 s m args below meth c T' locs' cells slots ∧ Fr n0 locs' ∧ Keep h0 T'.heap [o0] ∧ own_Bx Z T'.heap o0 u1 u3 u5 u7 ∧
      ∀ target, Steps p.tables e below (T'.setTop (mkF m 37 #[.val (.ref o0), .val (.double u1), .second, .val (.double u3), .second, .val (.double u5), .second, .val (.double u7), .second] [])) target → Steps p.tables e below (T0.setTop (mkF m 15 #[.val (.ref o0), .val (.double u1), .second, .val (.double u3), .second, .val (.double u5), .second, .val (.double u7), .second] [])) target := by
  obtain ⟨T6, h6, X6, e6, W6, st6⟩ := putF X0 hx hZ hown (host := "") (Or.inl (hw _ (List.mem_of_getElem? (i := 176) rfl))) Via.refl e0 F_minLat_o0 E_o0 (Or.inr ⟨(hw _ (List.mem_of_getElem? (i := 177) rfl)), rfl, hnm⟩) (hw _ (List.mem_of_getElem? (i := 9) rfl)) (ty := .double) (by decide) rfl rfl (g := (mkF m 17 #[.val (.ref o0), .val (.double u1), .second, .val (.double u3), .second, .val (.double u5), .second, .val (.double u7), .second] [(.double u1), (.ref o0)])) rfl rfl (hb hby d3_17)
  have Fw6 := F_minLat_o0.same W6
  have K6 : Keep h0 h6 [o0] := (Keep.refl h0 [o0]).wr W6 (Or.inl (List.mem_of_getElem? (i := 0) rfl))
  have N6 := Fr.snoc X6 N0 g_o0
  obtain ⟨T7, h7, X7, e7, W7, st7⟩ := putF X6 hx hZ hown (host := "") (Or.inl (hw _ (List.mem_of_getElem? (i := 178) rfl))) Via.refl e6 (F_minLon_o0.other W6 (Or.inr (slot_ne (Or.inr (hw _ (List.mem_of_getElem? (i := 179) rfl))) (Or.inr (hw _ (List.mem_of_getElem? (i := 177) rfl))) (by decide) (t := .double) (t' := .double) (by decide) (by decide)))) (E_o0.wr W6) (Or.inr ⟨(hw _ (List.mem_of_getElem? (i := 179) rfl)), rfl, hnm⟩) (hw _ (List.mem_of_getElem? (i := 9) rfl)) (ty := .double) (by decide) rfl rfl (g := (mkF m 22 #[.val (.ref o0), .val (.double u1), .second, .val (.double u3), .second, .val (.double u5), .second, .val (.double u7), .second] [(.double u3), (.ref o0)])) rfl rfl (hb hby d3_22)
  have Fw7 := (F_minLon_o0.other W6 (Or.inr (slot_ne (Or.inr (hw _ (List.mem_of_getElem? (i := 179) rfl))) (Or.inr (hw _ (List.mem_of_getElem? (i := 177) rfl))) (by decide) (t := .double) (t' := .double) (by decide) (by decide)))).same W7
  have K7 : Keep h0 h7 [o0] := K6.wr W7 (Or.inl (List.mem_of_getElem? (i := 0) rfl))
  have N7 := Fr.snoc X7 N6 g_o0
  obtain ⟨T8, h8, X8, e8, W8, st8⟩ := putF X7 hx hZ hown (host := "") (Or.inl (hw _ (List.mem_of_getElem? (i := 180) rfl))) Via.refl e7 ((F_maxLat_o0.other W6 (Or.inr (slot_ne (Or.inr (hw _ (List.mem_of_getElem? (i := 181) rfl))) (Or.inr (hw _ (List.mem_of_getElem? (i := 177) rfl))) (by decide) (t := .double) (t' := .double) (by decide) (by decide)))).other W7 (Or.inr (slot_ne (Or.inr (hw _ (List.mem_of_getElem? (i := 181) rfl))) (Or.inr (hw _ (List.mem_of_getElem? (i := 179) rfl))) (by decide) (t := .double) (t' := .double) (by decide) (by decide)))) ((E_o0.wr W6).wr W7) (Or.inr ⟨(hw _ (List.mem_of_getElem? (i := 181) rfl)), rfl, hnm⟩) (hw _ (List.mem_of_getElem? (i := 9) rfl)) (ty := .double) (by decide) rfl rfl (g := (mkF m 28 #[.val (.ref o0), .val (.double u1), .second, .val (.double u3), .second, .val (.double u5), .second, .val (.double u7), .second] [(.double u5), (.ref o0)])) rfl rfl (hb hby d3_28)
  have Fw8 := ((F_maxLat_o0.other W6 (Or.inr (slot_ne (Or.inr (hw _ (List.mem_of_getElem? (i := 181) rfl))) (Or.inr (hw _ (List.mem_of_getElem? (i := 177) rfl))) (by decide) (t := .double) (t' := .double) (by decide) (by decide)))).other W7 (Or.inr (slot_ne (Or.inr (hw _ (List.mem_of_getElem? (i := 181) rfl))) (Or.inr (hw _ (List.mem_of_getElem? (i := 179) rfl))) (by decide) (t := .double) (t' := .double) (by decide) (by decide)))).same W8
  have K8 : Keep h0 h8 [o0] := K7.wr W8 (Or.inl (List.mem_of_getElem? (i := 0) rfl))
  have N8 := Fr.snoc X8 N7 g_o0
  obtain ⟨T9, h9, X9, e9, W9, st9⟩ := putF X8 hx hZ hown (host := "") (Or.inl (hw _ (List.mem_of_getElem? (i := 182) rfl))) Via.refl e8 (((F_maxLon_o0.other W6 (Or.inr (slot_ne (Or.inr (hw _ (List.mem_of_getElem? (i := 183) rfl))) (Or.inr (hw _ (List.mem_of_getElem? (i := 177) rfl))) (by decide) (t := .double) (t' := .double) (by decide) (by decide)))).other W7 (Or.inr (slot_ne (Or.inr (hw _ (List.mem_of_getElem? (i := 183) rfl))) (Or.inr (hw _ (List.mem_of_getElem? (i := 179) rfl))) (by decide) (t := .double) (t' := .double) (by decide) (by decide)))).other W8 (Or.inr (slot_ne (Or.inr (hw _ (List.mem_of_getElem? (i := 183) rfl))) (Or.inr (hw _ (List.mem_of_getElem? (i := 181) rfl))) (by decide) (t := .double) (t' := .double) (by decide) (by decide)))) (((E_o0.wr W6).wr W7).wr W8) (Or.inr ⟨(hw _ (List.mem_of_getElem? (i := 183) rfl)), rfl, hnm⟩) (hw _ (List.mem_of_getElem? (i := 9) rfl)) (ty := .double) (by decide) rfl rfl (g := (mkF m 34 #[.val (.ref o0), .val (.double u1), .second, .val (.double u3), .second, .val (.double u5), .second, .val (.double u7), .second] [(.double u7), (.ref o0)])) rfl rfl (hb hby d3_34)
  have Fw9 := (((F_maxLon_o0.other W6 (Or.inr (slot_ne (Or.inr (hw _ (List.mem_of_getElem? (i := 183) rfl))) (Or.inr (hw _ (List.mem_of_getElem? (i := 177) rfl))) (by decide) (t := .double) (t' := .double) (by decide) (by decide)))).other W7 (Or.inr (slot_ne (Or.inr (hw _ (List.mem_of_getElem? (i := 183) rfl))) (Or.inr (hw _ (List.mem_of_getElem? (i := 179) rfl))) (by decide) (t := .double) (t' := .double) (by decide) (by decide)))).other W8 (Or.inr (slot_ne (Or.inr (hw _ (List.mem_of_getElem? (i := 183) rfl))) (Or.inr (hw _ (List.mem_of_getElem? (i := 181) rfl))) (by decide) (t := .double) (t' := .double) (by decide) (by decide)))).same W9
  have K9 : Keep h0 h9 [o0] := K8.wr W9 (Or.inl (List.mem_of_getElem? (i := 0) rfl))
  have N9 := Fr.snoc X9 N8 g_o0
  refine ⟨T9, _, X9, N9, by rw [e9]; exact K9, by rw [e9]; exact ⟨((((E_o0.wr W6).wr W7).wr W8).wr W9), (((Fw6.other W7 (Or.inr (slot_ne (Or.inr (hw _ (List.mem_of_getElem? (i := 177) rfl))) (Or.inr (hw _ (List.mem_of_getElem? (i := 179) rfl))) (by decide) (t := .double) (t' := .double) (by decide) (by decide)))).other W8 (Or.inr (slot_ne (Or.inr (hw _ (List.mem_of_getElem? (i := 177) rfl))) (Or.inr (hw _ (List.mem_of_getElem? (i := 181) rfl))) (by decide) (t := .double) (t' := .double) (by decide) (by decide)))).other W9 (Or.inr (slot_ne (Or.inr (hw _ (List.mem_of_getElem? (i := 177) rfl))) (Or.inr (hw _ (List.mem_of_getElem? (i := 183) rfl))) (by decide) (t := .double) (t' := .double) (by decide) (by decide)))), ((Fw7.other W8 (Or.inr (slot_ne (Or.inr (hw _ (List.mem_of_getElem? (i := 179) rfl))) (Or.inr (hw _ (List.mem_of_getElem? (i := 181) rfl))) (by decide) (t := .double) (t' := .double) (by decide) (by decide)))).other W9 (Or.inr (slot_ne (Or.inr (hw _ (List.mem_of_getElem? (i := 179) rfl))) (Or.inr (hw _ (List.mem_of_getElem? (i := 183) rfl))) (by decide) (t := .double) (t' := .double) (by decide) (by decide)))), (Fw8.other W9 (Or.inr (slot_ne (Or.inr (hw _ (List.mem_of_getElem? (i := 181) rfl))) (Or.inr (hw _ (List.mem_of_getElem? (i := 183) rfl))) (by decide) (t := .double) (t' := .double) (by decide) (by decide)))), Fw9⟩, fun target kt => ?_⟩
  show Steps p.tables e below (T0.setTop (mkF m 15 #[.val (.ref o0), .val (.double u1), .second, .val (.double u3), .second, .val (.double u5), .second, .val (.double u7), .second] [])) _
  refine XS.aloadN X0.here hx rfl (hb hby d3_15) rfl rfl ?_
  show Steps p.tables e below (T0.setTop (mkF m 16 #[.val (.ref o0), .val (.double u1), .second, .val (.double u3), .second, .val (.double u5), .second, .val (.double u7), .second] [(.ref o0)])) _
  refine own_dloadN X0.here hx rfl (hb hby d3_16) rfl ?_
  show Steps p.tables e below (T0.setTop (mkF m 17 #[.val (.ref o0), .val (.double u1), .second, .val (.double u3), .second, .val (.double u5), .second, .val (.double u7), .second] [(.double u1), (.ref o0)])) _
  refine st6 _ ?_
  show Steps p.tables e below (T6.setTop (mkF m 20 #[.val (.ref o0), .val (.double u1), .second, .val (.double u3), .second, .val (.double u5), .second, .val (.double u7), .second] [])) _
  refine XS.aloadN X6.here hx rfl (hb hby d3_20) rfl rfl ?_
  show Steps p.tables e below (T6.setTop (mkF m 21 #[.val (.ref o0), .val (.double u1), .second, .val (.double u3), .second, .val (.double u5), .second, .val (.double u7), .second] [(.ref o0)])) _
  refine own_dloadN X6.here hx rfl (hb hby d3_21) rfl ?_
  show Steps p.tables e below (T6.setTop (mkF m 22 #[.val (.ref o0), .val (.double u1), .second, .val (.double u3), .second, .val (.double u5), .second, .val (.double u7), .second] [(.double u3), (.ref o0)])) _
  refine st7 _ ?_
  show Steps p.tables e below (T7.setTop (mkF m 25 #[.val (.ref o0), .val (.double u1), .second, .val (.double u3), .second, .val (.double u5), .second, .val (.double u7), .second] [])) _
  refine XS.aloadN X7.here hx rfl (hb hby d3_25) rfl rfl ?_
  show Steps p.tables e below (T7.setTop (mkF m 26 #[.val (.ref o0), .val (.double u1), .second, .val (.double u3), .second, .val (.double u5), .second, .val (.double u7), .second] [(.ref o0)])) _
  refine own_dload X7.here hx rfl (hb hby d3_26) rfl ?_
  show Steps p.tables e below (T7.setTop (mkF m 28 #[.val (.ref o0), .val (.double u1), .second, .val (.double u3), .second, .val (.double u5), .second, .val (.double u7), .second] [(.double u5), (.ref o0)])) _
  refine st8 _ ?_
  show Steps p.tables e below (T8.setTop (mkF m 31 #[.val (.ref o0), .val (.double u1), .second, .val (.double u3), .second, .val (.double u5), .second, .val (.double u7), .second] [])) _
  refine XS.aloadN X8.here hx rfl (hb hby d3_31) rfl rfl ?_
  show Steps p.tables e below (T8.setTop (mkF m 32 #[.val (.ref o0), .val (.double u1), .second, .val (.double u3), .second, .val (.double u5), .second, .val (.double u7), .second] [(.ref o0)])) _
  refine own_dload X8.here hx rfl (hb hby d3_32) rfl ?_
  show Steps p.tables e below (T8.setTop (mkF m 34 #[.val (.ref o0), .val (.double u1), .second, .val (.double u3), .second, .val (.double u5), .second, .val (.double u7), .second] [(.double u7), (.ref o0)])) _
  refine st9 _ ?_
  exact kt
def Q3 (Z : State) (a1 : Addr) (v1 v2 v3 v4 : UInt64) (h0 : Heap) (n0 : Nat) (v : Option Value) (h : Heap) (L : List Loc) : Prop := v = none ∧ Fr n0 L ∧ Keep h0 h [a1] ∧ own_Bx Z h a1 v1 v2 v3 v4
set_option maxRecDepth 65536 in
set_option maxHeartbeats 40000000 in
theorem r3 (l : Launch) (Z : State) (a0 : Array Value) (hw : ∀ d ∈ tables_1, d.before a0 Z = true) (hwS : ∀ d ∈ Bundle.stringAtoms, d.before a0 Z = true) (hEL : EW Z a0 own_EL) (ws : List Jvm.Cond) (a1 : Addr) (x1 x2 x3 x4 : Int32) (w1 w2 w3 w4 : Value) (h0 : Heap) (n0 : Nat) (Z0 : n0 ≤ h0.size) (E_a1 : Exa Z h0 a1 "com/example/tidegrid/tidegrid/Box") (F1 : Fld Z h0 a1 "com/example/tidegrid/tidegrid/Box" "minLat" "D" w1) (F2 : Fld Z h0 a1 "com/example/tidegrid/tidegrid/Box" "minLon" "D" w2) (F3 : Fld Z h0 a1 "com/example/tidegrid/tidegrid/Box" "maxLat" "D" w3) (F4 : Fld Z h0 a1 "com/example/tidegrid/tidegrid/Box" "maxLon" "D" w4) (g_a1 : n0 ≤ a1) (CS : own_CS Z Z.heap) (O : Old Z n0 h0) (R1 : own_Rg x1) (R2 : own_Rg x2) (R3 : own_Rg x3) (R4 : own_Rg x4) (l1 : ¬ x1 < (-180 : Int32)) (l2 : ¬ x2 < (-360 : Int32)) (l3 : ¬ x3 < (-180 : Int32)) (l4 : ¬ x4 < (-360 : Int32)) (u1_ : ¬ (180 : Int32) < x1) (u2_ : ¬ (360 : Int32) < x2) (u3_ : ¬ (180 : Int32) < x3) (u4_ : ¬ (360 : Int32) < x4) (o1 : ¬ x3 < x1) (o2 : ¬ x4 < x2) :
    MetFree l (⟨"com/example/tidegrid/tidegrid/Box", "<init>", "(DDDD)V"⟩ : MethodName) (head1 (Jvm.Cond.code (⟨"com/example/tidegrid/tidegrid/Box", "<init>", "(DDDD)V"⟩ : MethodName) prog_17_method_1_code 9 none :: ws) own_R3) (fun a U => a = #[(.ref a1), (.double (own_hf x1)), (.double (own_hf x2)), (.double (own_hf x3)), (.double (own_hf x4))] ∧ Z.Warmed39 U.vm ∧ U.heap = h0 ∧ CHv Z own_EL U.vm h0) (fun _ _ _ _ _ => True) (fun _ U o U' => ∃ v L, o = .returned v ∧ Q3 Z a1 (own_hf x1) (own_hf x2) (own_hf x3) (own_hf x4) h0 n0 v U'.heap L ∧ CHr Z own_EL U.vm U.heap U'.vm U'.heap ∧ ReturnedEndW U o U' L own_R3.cells own_R3.slots) := by
  refine MetFree.of_bodySF (plainFor_of_name pn_3) hisR ?_
  intro p e s m args below meth c s₁ Bd hml0 hP hK
  obtain ⟨rfl, hZ, hh, hC⟩ := hP
  have hx := Bd.exec
  have hby := Bd.bytes
  have hml : c.maxLocals = 9 := hml0
  have hown : s.vm.findClass "com/example/tidegrid/tidegrid/Box" = some m.cls := findClass_of_methodNamed Bd.named
  have hnm := (name_of_methodNamed Bd.named Bd.method).1
  have X0 : Stand p l e own_R3 s m #[(.ref a1), (.double (own_hf x1)), (.double (own_hf x2)), (.double (own_hf x3)), (.double (own_hf x4))] below meth c s₁ [] 0 0 := Stand.of_body Bd
  have e0 : s₁.heap = h0 := by rw [← hh, Bd.state]; rfl
  have N0 := Fr.nil n0
  have pre0 : ∀ t, Steps p.tables e below (s₁.setTop (mkF m 0 #[.val (.ref a1), .val (.double (own_hf x1)), .second, .val (.double (own_hf x2)), .second, .val (.double (own_hf x3)), .second, .val (.double (own_hf x4)), .second] [])) t → Steps p.tables e below (s₁.setTop (entryFrame m #[(.ref a1), (.double (own_hf x1)), (.double (own_hf x2)), (.double (own_hf x3)), (.double (own_hf x4))] 9)) t := fun t k => castTop (ef_3 m a1 (own_hf x1) (own_hf x2) (own_hf x3) (own_hf x4)) k
  obtain ⟨_, _, ⟨T6, L6, k6, n6⟩, -, X6, ⟨Lc6, hQ6, l6, y6, z6⟩, st6⟩ := X0.specialBack hx (y := (⟨"java/lang/Record", "<init>", "()V"⟩ : MethodName)) rfl hown (mvT hZ (hw _ (List.mem_of_getElem? (i := 15) rfl))) (mvT hZ (hw _ (List.mem_of_getElem? (i := 16) rfl))) (mvT hZ (hw _ (List.mem_of_getElem? (i := 19) rfl))) (by decide) (backOf (W := 0) (r4 l Z a0 hw [] a1 h0 n0 Z0) hZ (hw _ (List.mem_of_getElem? (i := 19) rfl)) (hw _ (List.mem_of_getElem? (i := 18) rfl)) (by decide) (by decide)) (g := (mkF m 1 #[.val (.ref a1), .val (.double (own_hf x1)), .second, .val (.double (own_hf x2)), .second, .val (.double (own_hf x3)), .second, .val (.double (own_hf x4)), .second] [(.ref a1)])) rfl (by rw [hml]; rfl) (Steps.refl _) (a := a1) (argsL := []) (rest := []) (lenOf pd_3_2 rfl) rfl (by show 2 * 0 + _ ≤ _; exact Nat.le_of_eq rfl) (hb hby d3_1) (fun _ _ => ⟨rfl, e0, (by decide : 0 + 0 ≤ _), (by decide : 0 + 0 ≤ _)⟩)
  dsimp only [Pt.U, Pt.locs, Pt.cells, Pt.slots] at X6 l6 y6 z6 st6 hQ6
  subst l6 y6 z6
  obtain ⟨rfl, N6q, e6⟩ := hQ6
  have N6 := Fr.app N0 N6q
  obtain ⟨a, T7, h7, k1, bb, kb, X7, e7, E7, S7, hk7, hZ7, hown7, Ea, Fc, Fv, Va, la, lb, C7, L7, hs7, st7⟩ := ldcCH (s := s) (vm0 := s.vm) (EL := own_EL) X6 hx hZ hown (hw _ (List.mem_of_getElem? (i := 23) rfl)) hwS e6 (k0 := 0) own_noW (Nat.zero_le _) hEL (by decide) hC (vs := own_vs7) (z := 3) own_tx7 (by decide) rfl (g := (mkF m 10 #[.val (.ref a1), .val (.double (own_hf x1)), .second, .val (.double (own_hf x2)), .second, .val (.double (own_hf x3)), .second, .val (.double (own_hf x4)), .second] [(.double (own_hf x4)), (.double (own_hf x3)), (.double (own_hf x2)), (.double (own_hf x1))])) rfl (hb hby d3_10) (n := 12) (by rw [own_tl7]; decide) (by decide) (by decide) (by decide)
  have S8 : own_Str Z h7 a 3 := ⟨Ea, Fc, bb, kb, _, Fv, Va⟩
  have Z7 := Nat.le_trans Z0 E7.1
  have O7 := O.ext E7
  obtain ⟨_, _, ⟨T8, L8, k8, n8⟩, -, X8, S8', hz8, ⟨Lc8, hQ8, l8, y8, z8, C8⟩, st8⟩ := callSS (s := s.setVm T7.vm) X7 hx (y := (⟨"com/example/tidegrid/tidegrid/Box", "requireEdges", "(DDDDLjava/lang/String;)V"⟩ : MethodName)) hown7 (mvT hZ7 (hw _ (List.mem_of_getElem? (i := 31) rfl))) (mvT hZ7 (hw _ (List.mem_of_getElem? (i := 32) rfl))) (mvT hZ7 (hw _ (List.mem_of_getElem? (i := 10) rfl))) (mvT hZ7 (hw _ (List.mem_of_getElem? (i := 33) rfl))) (by decide) (backOfSH (s := s) (vm0 := T7.vm) (W := 0) (r6 l Z a0 hw hwS hEL [] x1 x2 x3 x4 a h7 n0 Z7 S8 CS O7 R1 R2 R3 R4 l1 l2 l3 l4 u1_ u2_ u3_ u4_ o1 o2) hZ7 (hw _ (List.mem_of_getElem? (i := 33) rfl)) (hw _ (List.mem_of_getElem? (i := 10) rfl)) (by decide) (by decide) hEL C7.1) (g := (mkF m 12 #[.val (.ref a1), .val (.double (own_hf x1)), .second, .val (.double (own_hf x2)), .second, .val (.double (own_hf x3)), .second, .val (.double (own_hf x4)), .second] [(.ref a), (.double (own_hf x4)), (.double (own_hf x3)), (.double (own_hf x2)), (.double (own_hf x1))])) rfl (by rw [hml]; rfl) (argsL := [(.double (own_hf x1)), (.double (own_hf x2)), (.double (own_hf x3)), (.double (own_hf x4)), (.ref a)]) (rest := []) (lenOf own_pdE rfl) rfl (by show 2 * 0 + _ ≤ _; exact Nat.le_of_eq rfl) (hb hby d3_12) (fun _ _ => ⟨rfl, e7, (by show 0 + 0 + 2 + 28 ≤ 30; decide), (by show 0 + 0 + (12 + 4) + 620 ≤ 640; decide)⟩)
  dsimp only [Pt.U, Pt.locs, Pt.cells, Pt.slots] at X8 S8' hz8 C8 l8 y8 z8 st8 hQ8
  subst l8 y8 z8
  obtain ⟨rfl, N8q, K8⟩ := hQ8
  have N8 := Fr.app N6 N8q
  have hZ8 : Z.Warmed39 (s.setVm T8.vm).vm := State.Warmed39.trans hZ7 S8'.1
  have hown8 : (s.setVm T8.vm).vm.findClass "com/example/tidegrid/tidegrid/Box" = some m.cls := by show (T8.vm).findClass _ = _; rw [S8'.1.alike.findClass]; exact hown7
  have SS8 := S7.trans S8' (Nat.le_trans hk7 K8.1)
  have KB : Keep h0 T8.heap [] := ((Keep.refl h0 []).ext E7).trans K8 all0
  have Z8 := Nat.le_trans Z0 KB.1
  obtain ⟨T9, L9, X9, N9, K9, B9, st9⟩ := own_bx (s := s.setVm T8.vm) a1 (own_hf x1) (own_hf x2) (own_hf x3) (own_hf x4) w1 w2 w3 w4 n0 X8 hx hZ8 hw hby hml hown8 rfl hnm Z8 N8 (by decide) (by decide) (E_a1.keep KB) (F1.keep KB nin0) g_a1 (F2.keep KB nin0) (F3.keep KB nin0) (F4.keep KB nin0)
  have CC : CHr Z own_EL s.vm h0 T8.vm T8.heap := C7.trans C8
  have Sa : Safe Z own_EL T8.vm T8.heap a1 := Safe.exa hZ8.alike (E_a1.keep KB) (by decide) (by decide)
  have CT := (CC.trans (CHr.keep K9 (allS Sa all0) CC.1)).trans (CHv.at X9 hZ8 hEL (CHv.keep K9 (allS Sa all0) CC.1))
  obtain ⟨fs, hr, hrun, hended, hRW⟩ := X9.leaveW SS8 K9.1 (v := none) (fun _ => rfl)
  refine ⟨_, _, pre0 _ ?_, hrun, hended, _, _, rfl, ?_, ?_, ⟨hRW.1, hRW.2.1, hRW.2.2.1, hRW.2.2.2.mono (by decide) (by decide)⟩⟩
  · show Steps p.tables e below (s₁.setTop (mkF m 0 #[.val (.ref a1), .val (.double (own_hf x1)), .second, .val (.double (own_hf x2)), .second, .val (.double (own_hf x3)), .second, .val (.double (own_hf x4)), .second] [])) _
    refine XS.aloadN X0.here hx rfl (hb hby d3_0) rfl rfl ?_
    show Steps p.tables e below (s₁.setTop (mkF m 1 #[.val (.ref a1), .val (.double (own_hf x1)), .second, .val (.double (own_hf x2)), .second, .val (.double (own_hf x3)), .second, .val (.double (own_hf x4)), .second] [(.ref a1)])) _
    refine st6.trans ?_
    show Steps p.tables e below (T6.setTop (mkF m 4 #[.val (.ref a1), .val (.double (own_hf x1)), .second, .val (.double (own_hf x2)), .second, .val (.double (own_hf x3)), .second, .val (.double (own_hf x4)), .second] [])) _
    refine own_dloadN X6.here hx rfl (hb hby d3_4) rfl ?_
    show Steps p.tables e below (T6.setTop (mkF m 5 #[.val (.ref a1), .val (.double (own_hf x1)), .second, .val (.double (own_hf x2)), .second, .val (.double (own_hf x3)), .second, .val (.double (own_hf x4)), .second] [(.double (own_hf x1))])) _
    refine own_dloadN X6.here hx rfl (hb hby d3_5) rfl ?_
    show Steps p.tables e below (T6.setTop (mkF m 6 #[.val (.ref a1), .val (.double (own_hf x1)), .second, .val (.double (own_hf x2)), .second, .val (.double (own_hf x3)), .second, .val (.double (own_hf x4)), .second] [(.double (own_hf x2)), (.double (own_hf x1))])) _
    refine own_dload X6.here hx rfl (hb hby d3_6) rfl ?_
    show Steps p.tables e below (T6.setTop (mkF m 8 #[.val (.ref a1), .val (.double (own_hf x1)), .second, .val (.double (own_hf x2)), .second, .val (.double (own_hf x3)), .second, .val (.double (own_hf x4)), .second] [(.double (own_hf x3)), (.double (own_hf x2)), (.double (own_hf x1))])) _
    refine own_dload X6.here hx rfl (hb hby d3_8) rfl ?_
    show Steps p.tables e below (T6.setTop (mkF m 10 #[.val (.ref a1), .val (.double (own_hf x1)), .second, .val (.double (own_hf x2)), .second, .val (.double (own_hf x3)), .second, .val (.double (own_hf x4)), .second] [(.double (own_hf x4)), (.double (own_hf x3)), (.double (own_hf x2)), (.double (own_hf x1))])) _
    refine st7 _ ?_
    show Steps p.tables e below (T7.setTop (mkF m 12 #[.val (.ref a1), .val (.double (own_hf x1)), .second, .val (.double (own_hf x2)), .second, .val (.double (own_hf x3)), .second, .val (.double (own_hf x4)), .second] [(.ref a), (.double (own_hf x4)), (.double (own_hf x3)), (.double (own_hf x2)), (.double (own_hf x1))])) _
    refine st8.trans ?_
    show Steps p.tables e below (T8.setTop (mkF m 15 #[.val (.ref a1), .val (.double (own_hf x1)), .second, .val (.double (own_hf x2)), .second, .val (.double (own_hf x3)), .second, .val (.double (own_hf x4)), .second] [])) _
    refine st9 _ ?_
    exact X9.returnOut hx Bd.returns (hb hby d3_37) hr
  · exact ⟨rfl, N9, ((Keep.refl h0 [a1]).trans KB all0).trans K9 (allS (Or.inl (List.mem_of_getElem? (i := 0) rfl)) all0), B9⟩
  · show CHr Z own_EL s.vm s.heap T9.vm T9.heap
    rw [hh]
    exact CT
theorem pd_0_0 : parseMethodDescriptor "(II)I" = some ⟨[.int, .int], some .int⟩ := by decide +kernel
theorem os0_12_own_A {z0 : Value} {z1 : Value} {z2 : Value} {z3 : Value} {s4 : Slot} {s5 : Slot} {s6 : Slot} {s7 : Slot} {s8 : Slot} {s9 : Slot} {s10 : Slot} {s11 : Slot} {s12 : Slot} {s13 : Slot} {s14 : Slot} {s15 : Slot} {s16 : Slot} {s17 : Slot} {v : Int32} (h : One s6) : storeLocals #[.val z0, .val z1, .val z2, .val z3, s4, s5, s6, s7, s8, s9, s10, s11, s12, s13, s14, s15, s16, s17] 6 (.int v) = some #[.val z0, .val z1, .val z2, .val z3, s4, s5, .val (.int v), s7, s8, s9, s10, s11, s12, s13, s14, s15, s16, s17] := by
  rcases h with rfl | ⟨w, rfl, hw⟩
  · rfl
  · cases w <;> first | rfl | (simp [Value.category] at hw)
theorem os0_26_own_A {z0 : Value} {z1 : Value} {z2 : Value} {z3 : Value} {s4 : Slot} {s5 : Slot} {z6 : Value} {s7 : Slot} {s8 : Slot} {s9 : Slot} {s10 : Slot} {s11 : Slot} {s12 : Slot} {s13 : Slot} {s14 : Slot} {s15 : Slot} {s16 : Slot} {s17 : Slot} {v : Int32} (h : One s7) : storeLocals #[.val z0, .val z1, .val z2, .val z3, s4, s5, .val z6, s7, s8, s9, s10, s11, s12, s13, s14, s15, s16, s17] 7 (.int v) = some #[.val z0, .val z1, .val z2, .val z3, s4, s5, .val z6, .val (.int v), s8, s9, s10, s11, s12, s13, s14, s15, s16, s17] := by
  rcases h with rfl | ⟨w, rfl, hw⟩
  · rfl
  · cases w <;> first | rfl | (simp [Value.category] at hw)
theorem os0_40_own_A {z0 : Value} {z1 : Value} {z2 : Value} {z3 : Value} {s4 : Slot} {s5 : Slot} {z6 : Value} {z7 : Value} {s8 : Slot} {s9 : Slot} {s10 : Slot} {s11 : Slot} {s12 : Slot} {s13 : Slot} {s14 : Slot} {s15 : Slot} {s16 : Slot} {s17 : Slot} {v : Int32} (h : One s8) : storeLocals #[.val z0, .val z1, .val z2, .val z3, s4, s5, .val z6, .val z7, s8, s9, s10, s11, s12, s13, s14, s15, s16, s17] 8 (.int v) = some #[.val z0, .val z1, .val z2, .val z3, s4, s5, .val z6, .val z7, .val (.int v), s9, s10, s11, s12, s13, s14, s15, s16, s17] := by
  rcases h with rfl | ⟨w, rfl, hw⟩
  · rfl
  · cases w <;> first | rfl | (simp [Value.category] at hw)
theorem os0_54_own_A {z0 : Value} {z1 : Value} {z2 : Value} {z3 : Value} {s4 : Slot} {s5 : Slot} {z6 : Value} {z7 : Value} {z8 : Value} {s9 : Slot} {s10 : Slot} {s11 : Slot} {s12 : Slot} {s13 : Slot} {s14 : Slot} {s15 : Slot} {s16 : Slot} {s17 : Slot} {v : Int32} (h : One s9) : storeLocals #[.val z0, .val z1, .val z2, .val z3, s4, s5, .val z6, .val z7, .val z8, s9, s10, s11, s12, s13, s14, s15, s16, s17] 9 (.int v) = some #[.val z0, .val z1, .val z2, .val z3, s4, s5, .val z6, .val z7, .val z8, .val (.int v), s10, s11, s12, s13, s14, s15, s16, s17] := by
  rcases h with rfl | ⟨w, rfl, hw⟩
  · rfl
  · cases w <;> first | rfl | (simp [Value.category] at hw)
theorem os0_63_own_A {z0 : Value} {z1 : Value} {z2 : Value} {z3 : Value} {s4 : Slot} {s5 : Slot} {z6 : Value} {z7 : Value} {z8 : Value} {z9 : Value} {s10 : Slot} {s11 : Slot} {s12 : Slot} {s13 : Slot} {s14 : Slot} {s15 : Slot} {s16 : Slot} {s17 : Slot} {v : Int32} (h : One s10) : storeLocals #[.val z0, .val z1, .val z2, .val z3, s4, s5, .val z6, .val z7, .val z8, .val z9, s10, s11, s12, s13, s14, s15, s16, s17] 10 (.int v) = some #[.val z0, .val z1, .val z2, .val z3, s4, s5, .val z6, .val z7, .val z8, .val z9, .val (.int v), s11, s12, s13, s14, s15, s16, s17] := by
  rcases h with rfl | ⟨w, rfl, hw⟩
  · rfl
  · cases w <;> first | rfl | (simp [Value.category] at hw)
theorem os0_72_own_A {z0 : Value} {z1 : Value} {z2 : Value} {z3 : Value} {s4 : Slot} {s5 : Slot} {z6 : Value} {z7 : Value} {z8 : Value} {z9 : Value} {z10 : Value} {s11 : Slot} {s12 : Slot} {s13 : Slot} {s14 : Slot} {s15 : Slot} {s16 : Slot} {s17 : Slot} {v : Int32} (h : One s11) : storeLocals #[.val z0, .val z1, .val z2, .val z3, s4, s5, .val z6, .val z7, .val z8, .val z9, .val z10, s11, s12, s13, s14, s15, s16, s17] 11 (.int v) = some #[.val z0, .val z1, .val z2, .val z3, s4, s5, .val z6, .val z7, .val z8, .val z9, .val z10, .val (.int v), s12, s13, s14, s15, s16, s17] := by
  rcases h with rfl | ⟨w, rfl, hw⟩
  · rfl
  · cases w <;> first | rfl | (simp [Value.category] at hw)
theorem os0_81_own_A {z0 : Value} {z1 : Value} {z2 : Value} {z3 : Value} {s4 : Slot} {s5 : Slot} {z6 : Value} {z7 : Value} {z8 : Value} {z9 : Value} {z10 : Value} {z11 : Value} {s12 : Slot} {s13 : Slot} {s14 : Slot} {s15 : Slot} {s16 : Slot} {s17 : Slot} {v : Int32} (h : One s12) : storeLocals #[.val z0, .val z1, .val z2, .val z3, s4, s5, .val z6, .val z7, .val z8, .val z9, .val z10, .val z11, s12, s13, s14, s15, s16, s17] 12 (.int v) = some #[.val z0, .val z1, .val z2, .val z3, s4, s5, .val z6, .val z7, .val z8, .val z9, .val z10, .val z11, .val (.int v), s13, s14, s15, s16, s17] := by
  rcases h with rfl | ⟨w, rfl, hw⟩
  · rfl
  · cases w <;> first | rfl | (simp [Value.category] at hw)
theorem os0_90_own_A {z0 : Value} {z1 : Value} {z2 : Value} {z3 : Value} {s4 : Slot} {s5 : Slot} {z6 : Value} {z7 : Value} {z8 : Value} {z9 : Value} {z10 : Value} {z11 : Value} {z12 : Value} {s13 : Slot} {s14 : Slot} {s15 : Slot} {s16 : Slot} {s17 : Slot} {v : Int32} (h : One s13) : storeLocals #[.val z0, .val z1, .val z2, .val z3, s4, s5, .val z6, .val z7, .val z8, .val z9, .val z10, .val z11, .val z12, s13, s14, s15, s16, s17] 13 (.int v) = some #[.val z0, .val z1, .val z2, .val z3, s4, s5, .val z6, .val z7, .val z8, .val z9, .val z10, .val z11, .val z12, .val (.int v), s14, s15, s16, s17] := by
  rcases h with rfl | ⟨w, rfl, hw⟩
  · rfl
  · cases w <;> first | rfl | (simp [Value.category] at hw)
set_option maxRecDepth 65536 in
set_option maxHeartbeats 40000000 in
theorem own_A {p : Program} {l : Launch} {e : Env} {s : State} {m : MethodId} {args : Array Value} {below : List Frame} {meth : Method} {c : Code} {T0 : State} {locs : List Loc} {cells slots : Nat} {Z : State} {a0 : Array Value} {h0 : Heap} (i0 : Int32) (i1 : Int32) (i2 : Int32) (i3 : Int32) (s4 : Slot) (s5 : Slot) (s6 : Slot) (s7 : Slot) (s8 : Slot) (s9 : Slot) (s10 : Slot) (s11 : Slot) (s12 : Slot) (s13 : Slot) (s14 : Slot) (s15 : Slot) (s16 : Slot) (s17 : Slot) (n0 : Nat)
    (X0 : Stand p l e room_1 s m args below meth c T0 locs cells slots) (hx : p.tables.exec = Jvm.exec) (hZ : Z.Warmed39 s.vm) (hw : ∀ d ∈ tables_1, d.before a0 Z = true) (hby : c.code = code) (hml : c.maxLocals = 18) (hown : s.vm.findClass "com/example/tidegrid/tidegrid/BoxContainsPinLaw" = some m.cls) (e0 : T0.heap = h0) (Z0 : n0 ≤ h0.size) (N0 : Fr n0 locs) (hcl : cells ≤ room_1.cells) (hsl : slots ≤ room_1.slots) (hs6 : One s6) (hs7 : One s7) (hs8 : One s8) (hs9 : One s9) (hs10 : One s10) (hs11 : One s11) (hs12 : One s12) (hs13 : One s13) (hnz7 : ¬ ((361 : Int32) = (0 : Int32))) (hnz21 : ¬ ((361 : Int32) = (0 : Int32))) (hnz35 : ¬ ((721 : Int32) = (0 : Int32))) (hnz49 : ¬ ((721 : Int32) = (0 : Int32))) :
    ∃ (T' : State) (locs' : List Loc), Stand p l e room_1 s m args below meth c T' locs' cells slots ∧ Fr n0 locs' ∧ T'.heap = h0 ∧
      ∀ target, Steps p.tables e below (T'.setTop (mkF m 92 #[.val (.int i0), .val (.int i1), .val (.int i2), .val (.int i3), s4, s5, .val (.int ((HMod.hMod (i0 &&& (2147483647 : Int32)) (361 : Int32)) - (180 : Int32))), .val (.int ((HMod.hMod (i1 &&& (2147483647 : Int32)) (361 : Int32)) - (180 : Int32))), .val (.int ((HMod.hMod (i2 &&& (2147483647 : Int32)) (721 : Int32)) - (360 : Int32))), .val (.int ((HMod.hMod (i3 &&& (2147483647 : Int32)) (721 : Int32)) - (360 : Int32))), .val (.int (own_min ((HMod.hMod (i0 &&& (2147483647 : Int32)) (361 : Int32)) - (180 : Int32)) ((HMod.hMod (i1 &&& (2147483647 : Int32)) (361 : Int32)) - (180 : Int32)))), .val (.int (own_max ((HMod.hMod (i0 &&& (2147483647 : Int32)) (361 : Int32)) - (180 : Int32)) ((HMod.hMod (i1 &&& (2147483647 : Int32)) (361 : Int32)) - (180 : Int32)))), .val (.int (own_min ((HMod.hMod (i2 &&& (2147483647 : Int32)) (721 : Int32)) - (360 : Int32)) ((HMod.hMod (i3 &&& (2147483647 : Int32)) (721 : Int32)) - (360 : Int32)))), .val (.int (own_max ((HMod.hMod (i2 &&& (2147483647 : Int32)) (721 : Int32)) - (360 : Int32)) ((HMod.hMod (i3 &&& (2147483647 : Int32)) (721 : Int32)) - (360 : Int32)))), s14, s15, s16, s17] [])) target → Steps p.tables e below (T0.setTop (mkF m 0 #[.val (.int i0), .val (.int i1), .val (.int i2), .val (.int i3), s4, s5, s6, s7, s8, s9, s10, s11, s12, s13, s14, s15, s16, s17] [])) target := by
  obtain ⟨_, _, ⟨T7, L7, k7, n7⟩, -, X7, ⟨Lc7, hQ7, l7, y7, z7⟩, st7⟩ := Jvm.LawKit.callS X0 hx (y := (⟨"java/lang/Math", "min", "(II)I"⟩ : MethodName)) hown (mvT hZ (hw _ (List.mem_of_getElem? (i := 1) rfl))) (mvT hZ (hw _ (List.mem_of_getElem? (i := 2) rfl))) (mvT hZ (hw _ (List.mem_of_getElem? (i := 3) rfl))) (mvT hZ (hw _ (List.mem_of_getElem? (i := 4) rfl))) (by decide) (backOf (W := 0) (r1 l Z a0 hw [] ((HMod.hMod (i0 &&& (2147483647 : Int32)) (361 : Int32)) - (180 : Int32)) ((HMod.hMod (i1 &&& (2147483647 : Int32)) (361 : Int32)) - (180 : Int32))  h0 n0 Z0) hZ (hw _ (List.mem_of_getElem? (i := 4) rfl)) (hw _ (List.mem_of_getElem? (i := 3) rfl)) (by decide) (by decide)) (g := (mkF m 60 #[.val (.int i0), .val (.int i1), .val (.int i2), .val (.int i3), s4, s5, .val (.int ((HMod.hMod (i0 &&& (2147483647 : Int32)) (361 : Int32)) - (180 : Int32))), .val (.int ((HMod.hMod (i1 &&& (2147483647 : Int32)) (361 : Int32)) - (180 : Int32))), .val (.int ((HMod.hMod (i2 &&& (2147483647 : Int32)) (721 : Int32)) - (360 : Int32))), .val (.int ((HMod.hMod (i3 &&& (2147483647 : Int32)) (721 : Int32)) - (360 : Int32))), s10, s11, s12, s13, s14, s15, s16, s17] [(.int ((HMod.hMod (i1 &&& (2147483647 : Int32)) (361 : Int32)) - (180 : Int32))), (.int ((HMod.hMod (i0 &&& (2147483647 : Int32)) (361 : Int32)) - (180 : Int32)))])) rfl (by rw [hml]; rfl) (argsL := [(.int ((HMod.hMod (i0 &&& (2147483647 : Int32)) (361 : Int32)) - (180 : Int32))), (.int ((HMod.hMod (i1 &&& (2147483647 : Int32)) (361 : Int32)) - (180 : Int32)))]) (rest := []) (lenOf pd_0_0 rfl) rfl (by show 2 * 0 + _ ≤ _; exact Nat.le_of_eq rfl) (hb hby at_60) (fun _ _ => ⟨rfl, e0, hcl, hsl⟩)
  dsimp only [Pt.U, Pt.locs, Pt.cells, Pt.slots] at X7 l7 y7 z7 st7 hQ7
  subst l7 y7 z7
  obtain ⟨rfl, N7q, e7⟩ := hQ7
  have N7 := Fr.app N0 N7q
  obtain ⟨_, _, ⟨T8, L8, k8, n8⟩, -, X8, ⟨Lc8, hQ8, l8, y8, z8⟩, st8⟩ := Jvm.LawKit.callS X7 hx (y := (⟨"java/lang/Math", "max", "(II)I"⟩ : MethodName)) hown (mvT hZ (hw _ (List.mem_of_getElem? (i := 5) rfl))) (mvT hZ (hw _ (List.mem_of_getElem? (i := 6) rfl))) (mvT hZ (hw _ (List.mem_of_getElem? (i := 3) rfl))) (mvT hZ (hw _ (List.mem_of_getElem? (i := 7) rfl))) (by decide) (backOf (W := 0) (r2 l Z a0 hw [] ((HMod.hMod (i0 &&& (2147483647 : Int32)) (361 : Int32)) - (180 : Int32)) ((HMod.hMod (i1 &&& (2147483647 : Int32)) (361 : Int32)) - (180 : Int32))  h0 n0 Z0) hZ (hw _ (List.mem_of_getElem? (i := 7) rfl)) (hw _ (List.mem_of_getElem? (i := 3) rfl)) (by decide) (by decide)) (g := (mkF m 69 #[.val (.int i0), .val (.int i1), .val (.int i2), .val (.int i3), s4, s5, .val (.int ((HMod.hMod (i0 &&& (2147483647 : Int32)) (361 : Int32)) - (180 : Int32))), .val (.int ((HMod.hMod (i1 &&& (2147483647 : Int32)) (361 : Int32)) - (180 : Int32))), .val (.int ((HMod.hMod (i2 &&& (2147483647 : Int32)) (721 : Int32)) - (360 : Int32))), .val (.int ((HMod.hMod (i3 &&& (2147483647 : Int32)) (721 : Int32)) - (360 : Int32))), .val (.int (own_min ((HMod.hMod (i0 &&& (2147483647 : Int32)) (361 : Int32)) - (180 : Int32)) ((HMod.hMod (i1 &&& (2147483647 : Int32)) (361 : Int32)) - (180 : Int32)))), s11, s12, s13, s14, s15, s16, s17] [(.int ((HMod.hMod (i1 &&& (2147483647 : Int32)) (361 : Int32)) - (180 : Int32))), (.int ((HMod.hMod (i0 &&& (2147483647 : Int32)) (361 : Int32)) - (180 : Int32)))])) rfl (by rw [hml]; rfl) (argsL := [(.int ((HMod.hMod (i0 &&& (2147483647 : Int32)) (361 : Int32)) - (180 : Int32))), (.int ((HMod.hMod (i1 &&& (2147483647 : Int32)) (361 : Int32)) - (180 : Int32)))]) (rest := []) (lenOf pd_0_0 rfl) rfl (by show 2 * 0 + _ ≤ _; exact Nat.le_of_eq rfl) (hb hby at_69) (fun _ _ => ⟨rfl, e7, hcl, hsl⟩)
  dsimp only [Pt.U, Pt.locs, Pt.cells, Pt.slots] at X8 l8 y8 z8 st8 hQ8
  subst l8 y8 z8
  obtain ⟨rfl, N8q, e8⟩ := hQ8
  have N8 := Fr.app N7 N8q
  obtain ⟨_, _, ⟨T9, L9, k9, n9⟩, -, X9, ⟨Lc9, hQ9, l9, y9, z9⟩, st9⟩ := Jvm.LawKit.callS X8 hx (y := (⟨"java/lang/Math", "min", "(II)I"⟩ : MethodName)) hown (mvT hZ (hw _ (List.mem_of_getElem? (i := 1) rfl))) (mvT hZ (hw _ (List.mem_of_getElem? (i := 2) rfl))) (mvT hZ (hw _ (List.mem_of_getElem? (i := 3) rfl))) (mvT hZ (hw _ (List.mem_of_getElem? (i := 4) rfl))) (by decide) (backOf (W := 0) (r1 l Z a0 hw [] ((HMod.hMod (i2 &&& (2147483647 : Int32)) (721 : Int32)) - (360 : Int32)) ((HMod.hMod (i3 &&& (2147483647 : Int32)) (721 : Int32)) - (360 : Int32))  h0 n0 Z0) hZ (hw _ (List.mem_of_getElem? (i := 4) rfl)) (hw _ (List.mem_of_getElem? (i := 3) rfl)) (by decide) (by decide)) (g := (mkF m 78 #[.val (.int i0), .val (.int i1), .val (.int i2), .val (.int i3), s4, s5, .val (.int ((HMod.hMod (i0 &&& (2147483647 : Int32)) (361 : Int32)) - (180 : Int32))), .val (.int ((HMod.hMod (i1 &&& (2147483647 : Int32)) (361 : Int32)) - (180 : Int32))), .val (.int ((HMod.hMod (i2 &&& (2147483647 : Int32)) (721 : Int32)) - (360 : Int32))), .val (.int ((HMod.hMod (i3 &&& (2147483647 : Int32)) (721 : Int32)) - (360 : Int32))), .val (.int (own_min ((HMod.hMod (i0 &&& (2147483647 : Int32)) (361 : Int32)) - (180 : Int32)) ((HMod.hMod (i1 &&& (2147483647 : Int32)) (361 : Int32)) - (180 : Int32)))), .val (.int (own_max ((HMod.hMod (i0 &&& (2147483647 : Int32)) (361 : Int32)) - (180 : Int32)) ((HMod.hMod (i1 &&& (2147483647 : Int32)) (361 : Int32)) - (180 : Int32)))), s12, s13, s14, s15, s16, s17] [(.int ((HMod.hMod (i3 &&& (2147483647 : Int32)) (721 : Int32)) - (360 : Int32))), (.int ((HMod.hMod (i2 &&& (2147483647 : Int32)) (721 : Int32)) - (360 : Int32)))])) rfl (by rw [hml]; rfl) (argsL := [(.int ((HMod.hMod (i2 &&& (2147483647 : Int32)) (721 : Int32)) - (360 : Int32))), (.int ((HMod.hMod (i3 &&& (2147483647 : Int32)) (721 : Int32)) - (360 : Int32)))]) (rest := []) (lenOf pd_0_0 rfl) rfl (by show 2 * 0 + _ ≤ _; exact Nat.le_of_eq rfl) (hb hby at_78) (fun _ _ => ⟨rfl, e8, hcl, hsl⟩)
  dsimp only [Pt.U, Pt.locs, Pt.cells, Pt.slots] at X9 l9 y9 z9 st9 hQ9
  subst l9 y9 z9
  obtain ⟨rfl, N9q, e9⟩ := hQ9
  have N9 := Fr.app N8 N9q
  obtain ⟨_, _, ⟨T10, L10, k10, n10⟩, -, X10, ⟨Lc10, hQ10, l10, y10, z10⟩, st10⟩ := Jvm.LawKit.callS X9 hx (y := (⟨"java/lang/Math", "max", "(II)I"⟩ : MethodName)) hown (mvT hZ (hw _ (List.mem_of_getElem? (i := 5) rfl))) (mvT hZ (hw _ (List.mem_of_getElem? (i := 6) rfl))) (mvT hZ (hw _ (List.mem_of_getElem? (i := 3) rfl))) (mvT hZ (hw _ (List.mem_of_getElem? (i := 7) rfl))) (by decide) (backOf (W := 0) (r2 l Z a0 hw [] ((HMod.hMod (i2 &&& (2147483647 : Int32)) (721 : Int32)) - (360 : Int32)) ((HMod.hMod (i3 &&& (2147483647 : Int32)) (721 : Int32)) - (360 : Int32))  h0 n0 Z0) hZ (hw _ (List.mem_of_getElem? (i := 7) rfl)) (hw _ (List.mem_of_getElem? (i := 3) rfl)) (by decide) (by decide)) (g := (mkF m 87 #[.val (.int i0), .val (.int i1), .val (.int i2), .val (.int i3), s4, s5, .val (.int ((HMod.hMod (i0 &&& (2147483647 : Int32)) (361 : Int32)) - (180 : Int32))), .val (.int ((HMod.hMod (i1 &&& (2147483647 : Int32)) (361 : Int32)) - (180 : Int32))), .val (.int ((HMod.hMod (i2 &&& (2147483647 : Int32)) (721 : Int32)) - (360 : Int32))), .val (.int ((HMod.hMod (i3 &&& (2147483647 : Int32)) (721 : Int32)) - (360 : Int32))), .val (.int (own_min ((HMod.hMod (i0 &&& (2147483647 : Int32)) (361 : Int32)) - (180 : Int32)) ((HMod.hMod (i1 &&& (2147483647 : Int32)) (361 : Int32)) - (180 : Int32)))), .val (.int (own_max ((HMod.hMod (i0 &&& (2147483647 : Int32)) (361 : Int32)) - (180 : Int32)) ((HMod.hMod (i1 &&& (2147483647 : Int32)) (361 : Int32)) - (180 : Int32)))), .val (.int (own_min ((HMod.hMod (i2 &&& (2147483647 : Int32)) (721 : Int32)) - (360 : Int32)) ((HMod.hMod (i3 &&& (2147483647 : Int32)) (721 : Int32)) - (360 : Int32)))), s13, s14, s15, s16, s17] [(.int ((HMod.hMod (i3 &&& (2147483647 : Int32)) (721 : Int32)) - (360 : Int32))), (.int ((HMod.hMod (i2 &&& (2147483647 : Int32)) (721 : Int32)) - (360 : Int32)))])) rfl (by rw [hml]; rfl) (argsL := [(.int ((HMod.hMod (i2 &&& (2147483647 : Int32)) (721 : Int32)) - (360 : Int32))), (.int ((HMod.hMod (i3 &&& (2147483647 : Int32)) (721 : Int32)) - (360 : Int32)))]) (rest := []) (lenOf pd_0_0 rfl) rfl (by show 2 * 0 + _ ≤ _; exact Nat.le_of_eq rfl) (hb hby at_87) (fun _ _ => ⟨rfl, e9, hcl, hsl⟩)
  dsimp only [Pt.U, Pt.locs, Pt.cells, Pt.slots] at X10 l10 y10 z10 st10 hQ10
  subst l10 y10 z10
  obtain ⟨rfl, N10q, e10⟩ := hQ10
  have N10 := Fr.app N9 N10q
  refine ⟨T10, _, X10, N10, e10, fun target kt => ?_⟩
  show Steps p.tables e below (T0.setTop (mkF m 0 #[.val (.int i0), .val (.int i1), .val (.int i2), .val (.int i3), s4, s5, s6, s7, s8, s9, s10, s11, s12, s13, s14, s15, s16, s17] [])) _
  refine XS.iloadN X0.here hx rfl (hb hby at_0) rfl ?_
  show Steps p.tables e below (T0.setTop (mkF m 1 #[.val (.int i0), .val (.int i1), .val (.int i2), .val (.int i3), s4, s5, s6, s7, s8, s9, s10, s11, s12, s13, s14, s15, s16, s17] [(.int i0)])) _
  refine X0.ldcInt hx hown (mvT hZ (hw _ (List.mem_of_getElem? (i := 0) rfl))) (g := (mkF m 1 #[.val (.int i0), .val (.int i1), .val (.int i2), .val (.int i3), s4, s5, s6, s7, s8, s9, s10, s11, s12, s13, s14, s15, s16, s17] [(.int i0)])) rfl (hb hby at_1) _ ?_
  show Steps p.tables e below (T0.setTop (mkF m 3 #[.val (.int i0), .val (.int i1), .val (.int i2), .val (.int i3), s4, s5, s6, s7, s8, s9, s10, s11, s12, s13, s14, s15, s16, s17] [(.int (2147483647 : Int32)), (.int i0)])) _
  refine XS.iand X0.here hx rfl (hb hby at_3) rfl ?_
  show Steps p.tables e below (T0.setTop (mkF m 4 #[.val (.int i0), .val (.int i1), .val (.int i2), .val (.int i3), s4, s5, s6, s7, s8, s9, s10, s11, s12, s13, s14, s15, s16, s17] [(.int (i0 &&& (2147483647 : Int32)))])) _
  refine XS.sipush X0.here hx rfl (hb hby at_4) ?_
  show Steps p.tables e below (T0.setTop (mkF m 7 #[.val (.int i0), .val (.int i1), .val (.int i2), .val (.int i3), s4, s5, s6, s7, s8, s9, s10, s11, s12, s13, s14, s15, s16, s17] [(.int (361 : Int32)), (.int (i0 &&& (2147483647 : Int32)))])) _
  refine Jvm.RoadKit.iremM X0 hx rfl (hb hby at_7) rfl hnz7 ?_
  show Steps p.tables e below (T0.setTop (mkF m 8 #[.val (.int i0), .val (.int i1), .val (.int i2), .val (.int i3), s4, s5, s6, s7, s8, s9, s10, s11, s12, s13, s14, s15, s16, s17] [(.int (HMod.hMod (i0 &&& (2147483647 : Int32)) (361 : Int32)))])) _
  refine XS.sipush X0.here hx rfl (hb hby at_8) ?_
  show Steps p.tables e below (T0.setTop (mkF m 11 #[.val (.int i0), .val (.int i1), .val (.int i2), .val (.int i3), s4, s5, s6, s7, s8, s9, s10, s11, s12, s13, s14, s15, s16, s17] [(.int (180 : Int32)), (.int (HMod.hMod (i0 &&& (2147483647 : Int32)) (361 : Int32)))])) _
  refine XS.isub X0.here hx rfl (hb hby at_11) rfl ?_
  show Steps p.tables e below (T0.setTop (mkF m 12 #[.val (.int i0), .val (.int i1), .val (.int i2), .val (.int i3), s4, s5, s6, s7, s8, s9, s10, s11, s12, s13, s14, s15, s16, s17] [(.int ((HMod.hMod (i0 &&& (2147483647 : Int32)) (361 : Int32)) - (180 : Int32)))])) _
  refine XS.istore X0.here hx rfl (hb hby at_12) rfl (l' := #[.val (.int i0), .val (.int i1), .val (.int i2), .val (.int i3), s4, s5, .val (.int ((HMod.hMod (i0 &&& (2147483647 : Int32)) (361 : Int32)) - (180 : Int32))), s7, s8, s9, s10, s11, s12, s13, s14, s15, s16, s17]) (os0_12_own_A hs6) ?_
  show Steps p.tables e below (T0.setTop (mkF m 14 #[.val (.int i0), .val (.int i1), .val (.int i2), .val (.int i3), s4, s5, .val (.int ((HMod.hMod (i0 &&& (2147483647 : Int32)) (361 : Int32)) - (180 : Int32))), s7, s8, s9, s10, s11, s12, s13, s14, s15, s16, s17] [])) _
  refine XS.iloadN X0.here hx rfl (hb hby at_14) rfl ?_
  show Steps p.tables e below (T0.setTop (mkF m 15 #[.val (.int i0), .val (.int i1), .val (.int i2), .val (.int i3), s4, s5, .val (.int ((HMod.hMod (i0 &&& (2147483647 : Int32)) (361 : Int32)) - (180 : Int32))), s7, s8, s9, s10, s11, s12, s13, s14, s15, s16, s17] [(.int i1)])) _
  refine X0.ldcInt hx hown (mvT hZ (hw _ (List.mem_of_getElem? (i := 0) rfl))) (g := (mkF m 15 #[.val (.int i0), .val (.int i1), .val (.int i2), .val (.int i3), s4, s5, .val (.int ((HMod.hMod (i0 &&& (2147483647 : Int32)) (361 : Int32)) - (180 : Int32))), s7, s8, s9, s10, s11, s12, s13, s14, s15, s16, s17] [(.int i1)])) rfl (hb hby at_15) _ ?_
  show Steps p.tables e below (T0.setTop (mkF m 17 #[.val (.int i0), .val (.int i1), .val (.int i2), .val (.int i3), s4, s5, .val (.int ((HMod.hMod (i0 &&& (2147483647 : Int32)) (361 : Int32)) - (180 : Int32))), s7, s8, s9, s10, s11, s12, s13, s14, s15, s16, s17] [(.int (2147483647 : Int32)), (.int i1)])) _
  refine XS.iand X0.here hx rfl (hb hby at_17) rfl ?_
  show Steps p.tables e below (T0.setTop (mkF m 18 #[.val (.int i0), .val (.int i1), .val (.int i2), .val (.int i3), s4, s5, .val (.int ((HMod.hMod (i0 &&& (2147483647 : Int32)) (361 : Int32)) - (180 : Int32))), s7, s8, s9, s10, s11, s12, s13, s14, s15, s16, s17] [(.int (i1 &&& (2147483647 : Int32)))])) _
  refine XS.sipush X0.here hx rfl (hb hby at_18) ?_
  show Steps p.tables e below (T0.setTop (mkF m 21 #[.val (.int i0), .val (.int i1), .val (.int i2), .val (.int i3), s4, s5, .val (.int ((HMod.hMod (i0 &&& (2147483647 : Int32)) (361 : Int32)) - (180 : Int32))), s7, s8, s9, s10, s11, s12, s13, s14, s15, s16, s17] [(.int (361 : Int32)), (.int (i1 &&& (2147483647 : Int32)))])) _
  refine Jvm.RoadKit.iremM X0 hx rfl (hb hby at_21) rfl hnz21 ?_
  show Steps p.tables e below (T0.setTop (mkF m 22 #[.val (.int i0), .val (.int i1), .val (.int i2), .val (.int i3), s4, s5, .val (.int ((HMod.hMod (i0 &&& (2147483647 : Int32)) (361 : Int32)) - (180 : Int32))), s7, s8, s9, s10, s11, s12, s13, s14, s15, s16, s17] [(.int (HMod.hMod (i1 &&& (2147483647 : Int32)) (361 : Int32)))])) _
  refine XS.sipush X0.here hx rfl (hb hby at_22) ?_
  show Steps p.tables e below (T0.setTop (mkF m 25 #[.val (.int i0), .val (.int i1), .val (.int i2), .val (.int i3), s4, s5, .val (.int ((HMod.hMod (i0 &&& (2147483647 : Int32)) (361 : Int32)) - (180 : Int32))), s7, s8, s9, s10, s11, s12, s13, s14, s15, s16, s17] [(.int (180 : Int32)), (.int (HMod.hMod (i1 &&& (2147483647 : Int32)) (361 : Int32)))])) _
  refine XS.isub X0.here hx rfl (hb hby at_25) rfl ?_
  show Steps p.tables e below (T0.setTop (mkF m 26 #[.val (.int i0), .val (.int i1), .val (.int i2), .val (.int i3), s4, s5, .val (.int ((HMod.hMod (i0 &&& (2147483647 : Int32)) (361 : Int32)) - (180 : Int32))), s7, s8, s9, s10, s11, s12, s13, s14, s15, s16, s17] [(.int ((HMod.hMod (i1 &&& (2147483647 : Int32)) (361 : Int32)) - (180 : Int32)))])) _
  refine XS.istore X0.here hx rfl (hb hby at_26) rfl (l' := #[.val (.int i0), .val (.int i1), .val (.int i2), .val (.int i3), s4, s5, .val (.int ((HMod.hMod (i0 &&& (2147483647 : Int32)) (361 : Int32)) - (180 : Int32))), .val (.int ((HMod.hMod (i1 &&& (2147483647 : Int32)) (361 : Int32)) - (180 : Int32))), s8, s9, s10, s11, s12, s13, s14, s15, s16, s17]) (os0_26_own_A hs7) ?_
  show Steps p.tables e below (T0.setTop (mkF m 28 #[.val (.int i0), .val (.int i1), .val (.int i2), .val (.int i3), s4, s5, .val (.int ((HMod.hMod (i0 &&& (2147483647 : Int32)) (361 : Int32)) - (180 : Int32))), .val (.int ((HMod.hMod (i1 &&& (2147483647 : Int32)) (361 : Int32)) - (180 : Int32))), s8, s9, s10, s11, s12, s13, s14, s15, s16, s17] [])) _
  refine XS.iloadN X0.here hx rfl (hb hby at_28) rfl ?_
  show Steps p.tables e below (T0.setTop (mkF m 29 #[.val (.int i0), .val (.int i1), .val (.int i2), .val (.int i3), s4, s5, .val (.int ((HMod.hMod (i0 &&& (2147483647 : Int32)) (361 : Int32)) - (180 : Int32))), .val (.int ((HMod.hMod (i1 &&& (2147483647 : Int32)) (361 : Int32)) - (180 : Int32))), s8, s9, s10, s11, s12, s13, s14, s15, s16, s17] [(.int i2)])) _
  refine X0.ldcInt hx hown (mvT hZ (hw _ (List.mem_of_getElem? (i := 0) rfl))) (g := (mkF m 29 #[.val (.int i0), .val (.int i1), .val (.int i2), .val (.int i3), s4, s5, .val (.int ((HMod.hMod (i0 &&& (2147483647 : Int32)) (361 : Int32)) - (180 : Int32))), .val (.int ((HMod.hMod (i1 &&& (2147483647 : Int32)) (361 : Int32)) - (180 : Int32))), s8, s9, s10, s11, s12, s13, s14, s15, s16, s17] [(.int i2)])) rfl (hb hby at_29) _ ?_
  show Steps p.tables e below (T0.setTop (mkF m 31 #[.val (.int i0), .val (.int i1), .val (.int i2), .val (.int i3), s4, s5, .val (.int ((HMod.hMod (i0 &&& (2147483647 : Int32)) (361 : Int32)) - (180 : Int32))), .val (.int ((HMod.hMod (i1 &&& (2147483647 : Int32)) (361 : Int32)) - (180 : Int32))), s8, s9, s10, s11, s12, s13, s14, s15, s16, s17] [(.int (2147483647 : Int32)), (.int i2)])) _
  refine XS.iand X0.here hx rfl (hb hby at_31) rfl ?_
  show Steps p.tables e below (T0.setTop (mkF m 32 #[.val (.int i0), .val (.int i1), .val (.int i2), .val (.int i3), s4, s5, .val (.int ((HMod.hMod (i0 &&& (2147483647 : Int32)) (361 : Int32)) - (180 : Int32))), .val (.int ((HMod.hMod (i1 &&& (2147483647 : Int32)) (361 : Int32)) - (180 : Int32))), s8, s9, s10, s11, s12, s13, s14, s15, s16, s17] [(.int (i2 &&& (2147483647 : Int32)))])) _
  refine XS.sipush X0.here hx rfl (hb hby at_32) ?_
  show Steps p.tables e below (T0.setTop (mkF m 35 #[.val (.int i0), .val (.int i1), .val (.int i2), .val (.int i3), s4, s5, .val (.int ((HMod.hMod (i0 &&& (2147483647 : Int32)) (361 : Int32)) - (180 : Int32))), .val (.int ((HMod.hMod (i1 &&& (2147483647 : Int32)) (361 : Int32)) - (180 : Int32))), s8, s9, s10, s11, s12, s13, s14, s15, s16, s17] [(.int (721 : Int32)), (.int (i2 &&& (2147483647 : Int32)))])) _
  refine Jvm.RoadKit.iremM X0 hx rfl (hb hby at_35) rfl hnz35 ?_
  show Steps p.tables e below (T0.setTop (mkF m 36 #[.val (.int i0), .val (.int i1), .val (.int i2), .val (.int i3), s4, s5, .val (.int ((HMod.hMod (i0 &&& (2147483647 : Int32)) (361 : Int32)) - (180 : Int32))), .val (.int ((HMod.hMod (i1 &&& (2147483647 : Int32)) (361 : Int32)) - (180 : Int32))), s8, s9, s10, s11, s12, s13, s14, s15, s16, s17] [(.int (HMod.hMod (i2 &&& (2147483647 : Int32)) (721 : Int32)))])) _
  refine XS.sipush X0.here hx rfl (hb hby at_36) ?_
  show Steps p.tables e below (T0.setTop (mkF m 39 #[.val (.int i0), .val (.int i1), .val (.int i2), .val (.int i3), s4, s5, .val (.int ((HMod.hMod (i0 &&& (2147483647 : Int32)) (361 : Int32)) - (180 : Int32))), .val (.int ((HMod.hMod (i1 &&& (2147483647 : Int32)) (361 : Int32)) - (180 : Int32))), s8, s9, s10, s11, s12, s13, s14, s15, s16, s17] [(.int (360 : Int32)), (.int (HMod.hMod (i2 &&& (2147483647 : Int32)) (721 : Int32)))])) _
  refine XS.isub X0.here hx rfl (hb hby at_39) rfl ?_
  show Steps p.tables e below (T0.setTop (mkF m 40 #[.val (.int i0), .val (.int i1), .val (.int i2), .val (.int i3), s4, s5, .val (.int ((HMod.hMod (i0 &&& (2147483647 : Int32)) (361 : Int32)) - (180 : Int32))), .val (.int ((HMod.hMod (i1 &&& (2147483647 : Int32)) (361 : Int32)) - (180 : Int32))), s8, s9, s10, s11, s12, s13, s14, s15, s16, s17] [(.int ((HMod.hMod (i2 &&& (2147483647 : Int32)) (721 : Int32)) - (360 : Int32)))])) _
  refine XS.istore X0.here hx rfl (hb hby at_40) rfl (l' := #[.val (.int i0), .val (.int i1), .val (.int i2), .val (.int i3), s4, s5, .val (.int ((HMod.hMod (i0 &&& (2147483647 : Int32)) (361 : Int32)) - (180 : Int32))), .val (.int ((HMod.hMod (i1 &&& (2147483647 : Int32)) (361 : Int32)) - (180 : Int32))), .val (.int ((HMod.hMod (i2 &&& (2147483647 : Int32)) (721 : Int32)) - (360 : Int32))), s9, s10, s11, s12, s13, s14, s15, s16, s17]) (os0_40_own_A hs8) ?_
  show Steps p.tables e below (T0.setTop (mkF m 42 #[.val (.int i0), .val (.int i1), .val (.int i2), .val (.int i3), s4, s5, .val (.int ((HMod.hMod (i0 &&& (2147483647 : Int32)) (361 : Int32)) - (180 : Int32))), .val (.int ((HMod.hMod (i1 &&& (2147483647 : Int32)) (361 : Int32)) - (180 : Int32))), .val (.int ((HMod.hMod (i2 &&& (2147483647 : Int32)) (721 : Int32)) - (360 : Int32))), s9, s10, s11, s12, s13, s14, s15, s16, s17] [])) _
  refine XS.iloadN X0.here hx rfl (hb hby at_42) rfl ?_
  show Steps p.tables e below (T0.setTop (mkF m 43 #[.val (.int i0), .val (.int i1), .val (.int i2), .val (.int i3), s4, s5, .val (.int ((HMod.hMod (i0 &&& (2147483647 : Int32)) (361 : Int32)) - (180 : Int32))), .val (.int ((HMod.hMod (i1 &&& (2147483647 : Int32)) (361 : Int32)) - (180 : Int32))), .val (.int ((HMod.hMod (i2 &&& (2147483647 : Int32)) (721 : Int32)) - (360 : Int32))), s9, s10, s11, s12, s13, s14, s15, s16, s17] [(.int i3)])) _
  refine X0.ldcInt hx hown (mvT hZ (hw _ (List.mem_of_getElem? (i := 0) rfl))) (g := (mkF m 43 #[.val (.int i0), .val (.int i1), .val (.int i2), .val (.int i3), s4, s5, .val (.int ((HMod.hMod (i0 &&& (2147483647 : Int32)) (361 : Int32)) - (180 : Int32))), .val (.int ((HMod.hMod (i1 &&& (2147483647 : Int32)) (361 : Int32)) - (180 : Int32))), .val (.int ((HMod.hMod (i2 &&& (2147483647 : Int32)) (721 : Int32)) - (360 : Int32))), s9, s10, s11, s12, s13, s14, s15, s16, s17] [(.int i3)])) rfl (hb hby at_43) _ ?_
  show Steps p.tables e below (T0.setTop (mkF m 45 #[.val (.int i0), .val (.int i1), .val (.int i2), .val (.int i3), s4, s5, .val (.int ((HMod.hMod (i0 &&& (2147483647 : Int32)) (361 : Int32)) - (180 : Int32))), .val (.int ((HMod.hMod (i1 &&& (2147483647 : Int32)) (361 : Int32)) - (180 : Int32))), .val (.int ((HMod.hMod (i2 &&& (2147483647 : Int32)) (721 : Int32)) - (360 : Int32))), s9, s10, s11, s12, s13, s14, s15, s16, s17] [(.int (2147483647 : Int32)), (.int i3)])) _
  refine XS.iand X0.here hx rfl (hb hby at_45) rfl ?_
  show Steps p.tables e below (T0.setTop (mkF m 46 #[.val (.int i0), .val (.int i1), .val (.int i2), .val (.int i3), s4, s5, .val (.int ((HMod.hMod (i0 &&& (2147483647 : Int32)) (361 : Int32)) - (180 : Int32))), .val (.int ((HMod.hMod (i1 &&& (2147483647 : Int32)) (361 : Int32)) - (180 : Int32))), .val (.int ((HMod.hMod (i2 &&& (2147483647 : Int32)) (721 : Int32)) - (360 : Int32))), s9, s10, s11, s12, s13, s14, s15, s16, s17] [(.int (i3 &&& (2147483647 : Int32)))])) _
  refine XS.sipush X0.here hx rfl (hb hby at_46) ?_
  show Steps p.tables e below (T0.setTop (mkF m 49 #[.val (.int i0), .val (.int i1), .val (.int i2), .val (.int i3), s4, s5, .val (.int ((HMod.hMod (i0 &&& (2147483647 : Int32)) (361 : Int32)) - (180 : Int32))), .val (.int ((HMod.hMod (i1 &&& (2147483647 : Int32)) (361 : Int32)) - (180 : Int32))), .val (.int ((HMod.hMod (i2 &&& (2147483647 : Int32)) (721 : Int32)) - (360 : Int32))), s9, s10, s11, s12, s13, s14, s15, s16, s17] [(.int (721 : Int32)), (.int (i3 &&& (2147483647 : Int32)))])) _
  refine Jvm.RoadKit.iremM X0 hx rfl (hb hby at_49) rfl hnz49 ?_
  show Steps p.tables e below (T0.setTop (mkF m 50 #[.val (.int i0), .val (.int i1), .val (.int i2), .val (.int i3), s4, s5, .val (.int ((HMod.hMod (i0 &&& (2147483647 : Int32)) (361 : Int32)) - (180 : Int32))), .val (.int ((HMod.hMod (i1 &&& (2147483647 : Int32)) (361 : Int32)) - (180 : Int32))), .val (.int ((HMod.hMod (i2 &&& (2147483647 : Int32)) (721 : Int32)) - (360 : Int32))), s9, s10, s11, s12, s13, s14, s15, s16, s17] [(.int (HMod.hMod (i3 &&& (2147483647 : Int32)) (721 : Int32)))])) _
  refine XS.sipush X0.here hx rfl (hb hby at_50) ?_
  show Steps p.tables e below (T0.setTop (mkF m 53 #[.val (.int i0), .val (.int i1), .val (.int i2), .val (.int i3), s4, s5, .val (.int ((HMod.hMod (i0 &&& (2147483647 : Int32)) (361 : Int32)) - (180 : Int32))), .val (.int ((HMod.hMod (i1 &&& (2147483647 : Int32)) (361 : Int32)) - (180 : Int32))), .val (.int ((HMod.hMod (i2 &&& (2147483647 : Int32)) (721 : Int32)) - (360 : Int32))), s9, s10, s11, s12, s13, s14, s15, s16, s17] [(.int (360 : Int32)), (.int (HMod.hMod (i3 &&& (2147483647 : Int32)) (721 : Int32)))])) _
  refine XS.isub X0.here hx rfl (hb hby at_53) rfl ?_
  show Steps p.tables e below (T0.setTop (mkF m 54 #[.val (.int i0), .val (.int i1), .val (.int i2), .val (.int i3), s4, s5, .val (.int ((HMod.hMod (i0 &&& (2147483647 : Int32)) (361 : Int32)) - (180 : Int32))), .val (.int ((HMod.hMod (i1 &&& (2147483647 : Int32)) (361 : Int32)) - (180 : Int32))), .val (.int ((HMod.hMod (i2 &&& (2147483647 : Int32)) (721 : Int32)) - (360 : Int32))), s9, s10, s11, s12, s13, s14, s15, s16, s17] [(.int ((HMod.hMod (i3 &&& (2147483647 : Int32)) (721 : Int32)) - (360 : Int32)))])) _
  refine XS.istore X0.here hx rfl (hb hby at_54) rfl (l' := #[.val (.int i0), .val (.int i1), .val (.int i2), .val (.int i3), s4, s5, .val (.int ((HMod.hMod (i0 &&& (2147483647 : Int32)) (361 : Int32)) - (180 : Int32))), .val (.int ((HMod.hMod (i1 &&& (2147483647 : Int32)) (361 : Int32)) - (180 : Int32))), .val (.int ((HMod.hMod (i2 &&& (2147483647 : Int32)) (721 : Int32)) - (360 : Int32))), .val (.int ((HMod.hMod (i3 &&& (2147483647 : Int32)) (721 : Int32)) - (360 : Int32))), s10, s11, s12, s13, s14, s15, s16, s17]) (os0_54_own_A hs9) ?_
  show Steps p.tables e below (T0.setTop (mkF m 56 #[.val (.int i0), .val (.int i1), .val (.int i2), .val (.int i3), s4, s5, .val (.int ((HMod.hMod (i0 &&& (2147483647 : Int32)) (361 : Int32)) - (180 : Int32))), .val (.int ((HMod.hMod (i1 &&& (2147483647 : Int32)) (361 : Int32)) - (180 : Int32))), .val (.int ((HMod.hMod (i2 &&& (2147483647 : Int32)) (721 : Int32)) - (360 : Int32))), .val (.int ((HMod.hMod (i3 &&& (2147483647 : Int32)) (721 : Int32)) - (360 : Int32))), s10, s11, s12, s13, s14, s15, s16, s17] [])) _
  refine XS.iload X0.here hx rfl (hb hby at_56) rfl ?_
  show Steps p.tables e below (T0.setTop (mkF m 58 #[.val (.int i0), .val (.int i1), .val (.int i2), .val (.int i3), s4, s5, .val (.int ((HMod.hMod (i0 &&& (2147483647 : Int32)) (361 : Int32)) - (180 : Int32))), .val (.int ((HMod.hMod (i1 &&& (2147483647 : Int32)) (361 : Int32)) - (180 : Int32))), .val (.int ((HMod.hMod (i2 &&& (2147483647 : Int32)) (721 : Int32)) - (360 : Int32))), .val (.int ((HMod.hMod (i3 &&& (2147483647 : Int32)) (721 : Int32)) - (360 : Int32))), s10, s11, s12, s13, s14, s15, s16, s17] [(.int ((HMod.hMod (i0 &&& (2147483647 : Int32)) (361 : Int32)) - (180 : Int32)))])) _
  refine XS.iload X0.here hx rfl (hb hby at_58) rfl ?_
  show Steps p.tables e below (T0.setTop (mkF m 60 #[.val (.int i0), .val (.int i1), .val (.int i2), .val (.int i3), s4, s5, .val (.int ((HMod.hMod (i0 &&& (2147483647 : Int32)) (361 : Int32)) - (180 : Int32))), .val (.int ((HMod.hMod (i1 &&& (2147483647 : Int32)) (361 : Int32)) - (180 : Int32))), .val (.int ((HMod.hMod (i2 &&& (2147483647 : Int32)) (721 : Int32)) - (360 : Int32))), .val (.int ((HMod.hMod (i3 &&& (2147483647 : Int32)) (721 : Int32)) - (360 : Int32))), s10, s11, s12, s13, s14, s15, s16, s17] [(.int ((HMod.hMod (i1 &&& (2147483647 : Int32)) (361 : Int32)) - (180 : Int32))), (.int ((HMod.hMod (i0 &&& (2147483647 : Int32)) (361 : Int32)) - (180 : Int32)))])) _
  refine st7 _ ?_
  show Steps p.tables e below (T7.setTop (mkF m 63 #[.val (.int i0), .val (.int i1), .val (.int i2), .val (.int i3), s4, s5, .val (.int ((HMod.hMod (i0 &&& (2147483647 : Int32)) (361 : Int32)) - (180 : Int32))), .val (.int ((HMod.hMod (i1 &&& (2147483647 : Int32)) (361 : Int32)) - (180 : Int32))), .val (.int ((HMod.hMod (i2 &&& (2147483647 : Int32)) (721 : Int32)) - (360 : Int32))), .val (.int ((HMod.hMod (i3 &&& (2147483647 : Int32)) (721 : Int32)) - (360 : Int32))), s10, s11, s12, s13, s14, s15, s16, s17] [(.int (own_min ((HMod.hMod (i0 &&& (2147483647 : Int32)) (361 : Int32)) - (180 : Int32)) ((HMod.hMod (i1 &&& (2147483647 : Int32)) (361 : Int32)) - (180 : Int32))))])) _
  refine XS.istore X7.here hx rfl (hb hby at_63) rfl (l' := #[.val (.int i0), .val (.int i1), .val (.int i2), .val (.int i3), s4, s5, .val (.int ((HMod.hMod (i0 &&& (2147483647 : Int32)) (361 : Int32)) - (180 : Int32))), .val (.int ((HMod.hMod (i1 &&& (2147483647 : Int32)) (361 : Int32)) - (180 : Int32))), .val (.int ((HMod.hMod (i2 &&& (2147483647 : Int32)) (721 : Int32)) - (360 : Int32))), .val (.int ((HMod.hMod (i3 &&& (2147483647 : Int32)) (721 : Int32)) - (360 : Int32))), .val (.int (own_min ((HMod.hMod (i0 &&& (2147483647 : Int32)) (361 : Int32)) - (180 : Int32)) ((HMod.hMod (i1 &&& (2147483647 : Int32)) (361 : Int32)) - (180 : Int32)))), s11, s12, s13, s14, s15, s16, s17]) (os0_63_own_A hs10) ?_
  show Steps p.tables e below (T7.setTop (mkF m 65 #[.val (.int i0), .val (.int i1), .val (.int i2), .val (.int i3), s4, s5, .val (.int ((HMod.hMod (i0 &&& (2147483647 : Int32)) (361 : Int32)) - (180 : Int32))), .val (.int ((HMod.hMod (i1 &&& (2147483647 : Int32)) (361 : Int32)) - (180 : Int32))), .val (.int ((HMod.hMod (i2 &&& (2147483647 : Int32)) (721 : Int32)) - (360 : Int32))), .val (.int ((HMod.hMod (i3 &&& (2147483647 : Int32)) (721 : Int32)) - (360 : Int32))), .val (.int (own_min ((HMod.hMod (i0 &&& (2147483647 : Int32)) (361 : Int32)) - (180 : Int32)) ((HMod.hMod (i1 &&& (2147483647 : Int32)) (361 : Int32)) - (180 : Int32)))), s11, s12, s13, s14, s15, s16, s17] [])) _
  refine XS.iload X7.here hx rfl (hb hby at_65) rfl ?_
  show Steps p.tables e below (T7.setTop (mkF m 67 #[.val (.int i0), .val (.int i1), .val (.int i2), .val (.int i3), s4, s5, .val (.int ((HMod.hMod (i0 &&& (2147483647 : Int32)) (361 : Int32)) - (180 : Int32))), .val (.int ((HMod.hMod (i1 &&& (2147483647 : Int32)) (361 : Int32)) - (180 : Int32))), .val (.int ((HMod.hMod (i2 &&& (2147483647 : Int32)) (721 : Int32)) - (360 : Int32))), .val (.int ((HMod.hMod (i3 &&& (2147483647 : Int32)) (721 : Int32)) - (360 : Int32))), .val (.int (own_min ((HMod.hMod (i0 &&& (2147483647 : Int32)) (361 : Int32)) - (180 : Int32)) ((HMod.hMod (i1 &&& (2147483647 : Int32)) (361 : Int32)) - (180 : Int32)))), s11, s12, s13, s14, s15, s16, s17] [(.int ((HMod.hMod (i0 &&& (2147483647 : Int32)) (361 : Int32)) - (180 : Int32)))])) _
  refine XS.iload X7.here hx rfl (hb hby at_67) rfl ?_
  show Steps p.tables e below (T7.setTop (mkF m 69 #[.val (.int i0), .val (.int i1), .val (.int i2), .val (.int i3), s4, s5, .val (.int ((HMod.hMod (i0 &&& (2147483647 : Int32)) (361 : Int32)) - (180 : Int32))), .val (.int ((HMod.hMod (i1 &&& (2147483647 : Int32)) (361 : Int32)) - (180 : Int32))), .val (.int ((HMod.hMod (i2 &&& (2147483647 : Int32)) (721 : Int32)) - (360 : Int32))), .val (.int ((HMod.hMod (i3 &&& (2147483647 : Int32)) (721 : Int32)) - (360 : Int32))), .val (.int (own_min ((HMod.hMod (i0 &&& (2147483647 : Int32)) (361 : Int32)) - (180 : Int32)) ((HMod.hMod (i1 &&& (2147483647 : Int32)) (361 : Int32)) - (180 : Int32)))), s11, s12, s13, s14, s15, s16, s17] [(.int ((HMod.hMod (i1 &&& (2147483647 : Int32)) (361 : Int32)) - (180 : Int32))), (.int ((HMod.hMod (i0 &&& (2147483647 : Int32)) (361 : Int32)) - (180 : Int32)))])) _
  refine st8 _ ?_
  show Steps p.tables e below (T8.setTop (mkF m 72 #[.val (.int i0), .val (.int i1), .val (.int i2), .val (.int i3), s4, s5, .val (.int ((HMod.hMod (i0 &&& (2147483647 : Int32)) (361 : Int32)) - (180 : Int32))), .val (.int ((HMod.hMod (i1 &&& (2147483647 : Int32)) (361 : Int32)) - (180 : Int32))), .val (.int ((HMod.hMod (i2 &&& (2147483647 : Int32)) (721 : Int32)) - (360 : Int32))), .val (.int ((HMod.hMod (i3 &&& (2147483647 : Int32)) (721 : Int32)) - (360 : Int32))), .val (.int (own_min ((HMod.hMod (i0 &&& (2147483647 : Int32)) (361 : Int32)) - (180 : Int32)) ((HMod.hMod (i1 &&& (2147483647 : Int32)) (361 : Int32)) - (180 : Int32)))), s11, s12, s13, s14, s15, s16, s17] [(.int (own_max ((HMod.hMod (i0 &&& (2147483647 : Int32)) (361 : Int32)) - (180 : Int32)) ((HMod.hMod (i1 &&& (2147483647 : Int32)) (361 : Int32)) - (180 : Int32))))])) _
  refine XS.istore X8.here hx rfl (hb hby at_72) rfl (l' := #[.val (.int i0), .val (.int i1), .val (.int i2), .val (.int i3), s4, s5, .val (.int ((HMod.hMod (i0 &&& (2147483647 : Int32)) (361 : Int32)) - (180 : Int32))), .val (.int ((HMod.hMod (i1 &&& (2147483647 : Int32)) (361 : Int32)) - (180 : Int32))), .val (.int ((HMod.hMod (i2 &&& (2147483647 : Int32)) (721 : Int32)) - (360 : Int32))), .val (.int ((HMod.hMod (i3 &&& (2147483647 : Int32)) (721 : Int32)) - (360 : Int32))), .val (.int (own_min ((HMod.hMod (i0 &&& (2147483647 : Int32)) (361 : Int32)) - (180 : Int32)) ((HMod.hMod (i1 &&& (2147483647 : Int32)) (361 : Int32)) - (180 : Int32)))), .val (.int (own_max ((HMod.hMod (i0 &&& (2147483647 : Int32)) (361 : Int32)) - (180 : Int32)) ((HMod.hMod (i1 &&& (2147483647 : Int32)) (361 : Int32)) - (180 : Int32)))), s12, s13, s14, s15, s16, s17]) (os0_72_own_A hs11) ?_
  show Steps p.tables e below (T8.setTop (mkF m 74 #[.val (.int i0), .val (.int i1), .val (.int i2), .val (.int i3), s4, s5, .val (.int ((HMod.hMod (i0 &&& (2147483647 : Int32)) (361 : Int32)) - (180 : Int32))), .val (.int ((HMod.hMod (i1 &&& (2147483647 : Int32)) (361 : Int32)) - (180 : Int32))), .val (.int ((HMod.hMod (i2 &&& (2147483647 : Int32)) (721 : Int32)) - (360 : Int32))), .val (.int ((HMod.hMod (i3 &&& (2147483647 : Int32)) (721 : Int32)) - (360 : Int32))), .val (.int (own_min ((HMod.hMod (i0 &&& (2147483647 : Int32)) (361 : Int32)) - (180 : Int32)) ((HMod.hMod (i1 &&& (2147483647 : Int32)) (361 : Int32)) - (180 : Int32)))), .val (.int (own_max ((HMod.hMod (i0 &&& (2147483647 : Int32)) (361 : Int32)) - (180 : Int32)) ((HMod.hMod (i1 &&& (2147483647 : Int32)) (361 : Int32)) - (180 : Int32)))), s12, s13, s14, s15, s16, s17] [])) _
  refine XS.iload X8.here hx rfl (hb hby at_74) rfl ?_
  show Steps p.tables e below (T8.setTop (mkF m 76 #[.val (.int i0), .val (.int i1), .val (.int i2), .val (.int i3), s4, s5, .val (.int ((HMod.hMod (i0 &&& (2147483647 : Int32)) (361 : Int32)) - (180 : Int32))), .val (.int ((HMod.hMod (i1 &&& (2147483647 : Int32)) (361 : Int32)) - (180 : Int32))), .val (.int ((HMod.hMod (i2 &&& (2147483647 : Int32)) (721 : Int32)) - (360 : Int32))), .val (.int ((HMod.hMod (i3 &&& (2147483647 : Int32)) (721 : Int32)) - (360 : Int32))), .val (.int (own_min ((HMod.hMod (i0 &&& (2147483647 : Int32)) (361 : Int32)) - (180 : Int32)) ((HMod.hMod (i1 &&& (2147483647 : Int32)) (361 : Int32)) - (180 : Int32)))), .val (.int (own_max ((HMod.hMod (i0 &&& (2147483647 : Int32)) (361 : Int32)) - (180 : Int32)) ((HMod.hMod (i1 &&& (2147483647 : Int32)) (361 : Int32)) - (180 : Int32)))), s12, s13, s14, s15, s16, s17] [(.int ((HMod.hMod (i2 &&& (2147483647 : Int32)) (721 : Int32)) - (360 : Int32)))])) _
  refine XS.iload X8.here hx rfl (hb hby at_76) rfl ?_
  show Steps p.tables e below (T8.setTop (mkF m 78 #[.val (.int i0), .val (.int i1), .val (.int i2), .val (.int i3), s4, s5, .val (.int ((HMod.hMod (i0 &&& (2147483647 : Int32)) (361 : Int32)) - (180 : Int32))), .val (.int ((HMod.hMod (i1 &&& (2147483647 : Int32)) (361 : Int32)) - (180 : Int32))), .val (.int ((HMod.hMod (i2 &&& (2147483647 : Int32)) (721 : Int32)) - (360 : Int32))), .val (.int ((HMod.hMod (i3 &&& (2147483647 : Int32)) (721 : Int32)) - (360 : Int32))), .val (.int (own_min ((HMod.hMod (i0 &&& (2147483647 : Int32)) (361 : Int32)) - (180 : Int32)) ((HMod.hMod (i1 &&& (2147483647 : Int32)) (361 : Int32)) - (180 : Int32)))), .val (.int (own_max ((HMod.hMod (i0 &&& (2147483647 : Int32)) (361 : Int32)) - (180 : Int32)) ((HMod.hMod (i1 &&& (2147483647 : Int32)) (361 : Int32)) - (180 : Int32)))), s12, s13, s14, s15, s16, s17] [(.int ((HMod.hMod (i3 &&& (2147483647 : Int32)) (721 : Int32)) - (360 : Int32))), (.int ((HMod.hMod (i2 &&& (2147483647 : Int32)) (721 : Int32)) - (360 : Int32)))])) _
  refine st9 _ ?_
  show Steps p.tables e below (T9.setTop (mkF m 81 #[.val (.int i0), .val (.int i1), .val (.int i2), .val (.int i3), s4, s5, .val (.int ((HMod.hMod (i0 &&& (2147483647 : Int32)) (361 : Int32)) - (180 : Int32))), .val (.int ((HMod.hMod (i1 &&& (2147483647 : Int32)) (361 : Int32)) - (180 : Int32))), .val (.int ((HMod.hMod (i2 &&& (2147483647 : Int32)) (721 : Int32)) - (360 : Int32))), .val (.int ((HMod.hMod (i3 &&& (2147483647 : Int32)) (721 : Int32)) - (360 : Int32))), .val (.int (own_min ((HMod.hMod (i0 &&& (2147483647 : Int32)) (361 : Int32)) - (180 : Int32)) ((HMod.hMod (i1 &&& (2147483647 : Int32)) (361 : Int32)) - (180 : Int32)))), .val (.int (own_max ((HMod.hMod (i0 &&& (2147483647 : Int32)) (361 : Int32)) - (180 : Int32)) ((HMod.hMod (i1 &&& (2147483647 : Int32)) (361 : Int32)) - (180 : Int32)))), s12, s13, s14, s15, s16, s17] [(.int (own_min ((HMod.hMod (i2 &&& (2147483647 : Int32)) (721 : Int32)) - (360 : Int32)) ((HMod.hMod (i3 &&& (2147483647 : Int32)) (721 : Int32)) - (360 : Int32))))])) _
  refine XS.istore X9.here hx rfl (hb hby at_81) rfl (l' := #[.val (.int i0), .val (.int i1), .val (.int i2), .val (.int i3), s4, s5, .val (.int ((HMod.hMod (i0 &&& (2147483647 : Int32)) (361 : Int32)) - (180 : Int32))), .val (.int ((HMod.hMod (i1 &&& (2147483647 : Int32)) (361 : Int32)) - (180 : Int32))), .val (.int ((HMod.hMod (i2 &&& (2147483647 : Int32)) (721 : Int32)) - (360 : Int32))), .val (.int ((HMod.hMod (i3 &&& (2147483647 : Int32)) (721 : Int32)) - (360 : Int32))), .val (.int (own_min ((HMod.hMod (i0 &&& (2147483647 : Int32)) (361 : Int32)) - (180 : Int32)) ((HMod.hMod (i1 &&& (2147483647 : Int32)) (361 : Int32)) - (180 : Int32)))), .val (.int (own_max ((HMod.hMod (i0 &&& (2147483647 : Int32)) (361 : Int32)) - (180 : Int32)) ((HMod.hMod (i1 &&& (2147483647 : Int32)) (361 : Int32)) - (180 : Int32)))), .val (.int (own_min ((HMod.hMod (i2 &&& (2147483647 : Int32)) (721 : Int32)) - (360 : Int32)) ((HMod.hMod (i3 &&& (2147483647 : Int32)) (721 : Int32)) - (360 : Int32)))), s13, s14, s15, s16, s17]) (os0_81_own_A hs12) ?_
  show Steps p.tables e below (T9.setTop (mkF m 83 #[.val (.int i0), .val (.int i1), .val (.int i2), .val (.int i3), s4, s5, .val (.int ((HMod.hMod (i0 &&& (2147483647 : Int32)) (361 : Int32)) - (180 : Int32))), .val (.int ((HMod.hMod (i1 &&& (2147483647 : Int32)) (361 : Int32)) - (180 : Int32))), .val (.int ((HMod.hMod (i2 &&& (2147483647 : Int32)) (721 : Int32)) - (360 : Int32))), .val (.int ((HMod.hMod (i3 &&& (2147483647 : Int32)) (721 : Int32)) - (360 : Int32))), .val (.int (own_min ((HMod.hMod (i0 &&& (2147483647 : Int32)) (361 : Int32)) - (180 : Int32)) ((HMod.hMod (i1 &&& (2147483647 : Int32)) (361 : Int32)) - (180 : Int32)))), .val (.int (own_max ((HMod.hMod (i0 &&& (2147483647 : Int32)) (361 : Int32)) - (180 : Int32)) ((HMod.hMod (i1 &&& (2147483647 : Int32)) (361 : Int32)) - (180 : Int32)))), .val (.int (own_min ((HMod.hMod (i2 &&& (2147483647 : Int32)) (721 : Int32)) - (360 : Int32)) ((HMod.hMod (i3 &&& (2147483647 : Int32)) (721 : Int32)) - (360 : Int32)))), s13, s14, s15, s16, s17] [])) _
  refine XS.iload X9.here hx rfl (hb hby at_83) rfl ?_
  show Steps p.tables e below (T9.setTop (mkF m 85 #[.val (.int i0), .val (.int i1), .val (.int i2), .val (.int i3), s4, s5, .val (.int ((HMod.hMod (i0 &&& (2147483647 : Int32)) (361 : Int32)) - (180 : Int32))), .val (.int ((HMod.hMod (i1 &&& (2147483647 : Int32)) (361 : Int32)) - (180 : Int32))), .val (.int ((HMod.hMod (i2 &&& (2147483647 : Int32)) (721 : Int32)) - (360 : Int32))), .val (.int ((HMod.hMod (i3 &&& (2147483647 : Int32)) (721 : Int32)) - (360 : Int32))), .val (.int (own_min ((HMod.hMod (i0 &&& (2147483647 : Int32)) (361 : Int32)) - (180 : Int32)) ((HMod.hMod (i1 &&& (2147483647 : Int32)) (361 : Int32)) - (180 : Int32)))), .val (.int (own_max ((HMod.hMod (i0 &&& (2147483647 : Int32)) (361 : Int32)) - (180 : Int32)) ((HMod.hMod (i1 &&& (2147483647 : Int32)) (361 : Int32)) - (180 : Int32)))), .val (.int (own_min ((HMod.hMod (i2 &&& (2147483647 : Int32)) (721 : Int32)) - (360 : Int32)) ((HMod.hMod (i3 &&& (2147483647 : Int32)) (721 : Int32)) - (360 : Int32)))), s13, s14, s15, s16, s17] [(.int ((HMod.hMod (i2 &&& (2147483647 : Int32)) (721 : Int32)) - (360 : Int32)))])) _
  refine XS.iload X9.here hx rfl (hb hby at_85) rfl ?_
  show Steps p.tables e below (T9.setTop (mkF m 87 #[.val (.int i0), .val (.int i1), .val (.int i2), .val (.int i3), s4, s5, .val (.int ((HMod.hMod (i0 &&& (2147483647 : Int32)) (361 : Int32)) - (180 : Int32))), .val (.int ((HMod.hMod (i1 &&& (2147483647 : Int32)) (361 : Int32)) - (180 : Int32))), .val (.int ((HMod.hMod (i2 &&& (2147483647 : Int32)) (721 : Int32)) - (360 : Int32))), .val (.int ((HMod.hMod (i3 &&& (2147483647 : Int32)) (721 : Int32)) - (360 : Int32))), .val (.int (own_min ((HMod.hMod (i0 &&& (2147483647 : Int32)) (361 : Int32)) - (180 : Int32)) ((HMod.hMod (i1 &&& (2147483647 : Int32)) (361 : Int32)) - (180 : Int32)))), .val (.int (own_max ((HMod.hMod (i0 &&& (2147483647 : Int32)) (361 : Int32)) - (180 : Int32)) ((HMod.hMod (i1 &&& (2147483647 : Int32)) (361 : Int32)) - (180 : Int32)))), .val (.int (own_min ((HMod.hMod (i2 &&& (2147483647 : Int32)) (721 : Int32)) - (360 : Int32)) ((HMod.hMod (i3 &&& (2147483647 : Int32)) (721 : Int32)) - (360 : Int32)))), s13, s14, s15, s16, s17] [(.int ((HMod.hMod (i3 &&& (2147483647 : Int32)) (721 : Int32)) - (360 : Int32))), (.int ((HMod.hMod (i2 &&& (2147483647 : Int32)) (721 : Int32)) - (360 : Int32)))])) _
  refine st10 _ ?_
  show Steps p.tables e below (T10.setTop (mkF m 90 #[.val (.int i0), .val (.int i1), .val (.int i2), .val (.int i3), s4, s5, .val (.int ((HMod.hMod (i0 &&& (2147483647 : Int32)) (361 : Int32)) - (180 : Int32))), .val (.int ((HMod.hMod (i1 &&& (2147483647 : Int32)) (361 : Int32)) - (180 : Int32))), .val (.int ((HMod.hMod (i2 &&& (2147483647 : Int32)) (721 : Int32)) - (360 : Int32))), .val (.int ((HMod.hMod (i3 &&& (2147483647 : Int32)) (721 : Int32)) - (360 : Int32))), .val (.int (own_min ((HMod.hMod (i0 &&& (2147483647 : Int32)) (361 : Int32)) - (180 : Int32)) ((HMod.hMod (i1 &&& (2147483647 : Int32)) (361 : Int32)) - (180 : Int32)))), .val (.int (own_max ((HMod.hMod (i0 &&& (2147483647 : Int32)) (361 : Int32)) - (180 : Int32)) ((HMod.hMod (i1 &&& (2147483647 : Int32)) (361 : Int32)) - (180 : Int32)))), .val (.int (own_min ((HMod.hMod (i2 &&& (2147483647 : Int32)) (721 : Int32)) - (360 : Int32)) ((HMod.hMod (i3 &&& (2147483647 : Int32)) (721 : Int32)) - (360 : Int32)))), s13, s14, s15, s16, s17] [(.int (own_max ((HMod.hMod (i2 &&& (2147483647 : Int32)) (721 : Int32)) - (360 : Int32)) ((HMod.hMod (i3 &&& (2147483647 : Int32)) (721 : Int32)) - (360 : Int32))))])) _
  refine XS.istore X10.here hx rfl (hb hby at_90) rfl (l' := #[.val (.int i0), .val (.int i1), .val (.int i2), .val (.int i3), s4, s5, .val (.int ((HMod.hMod (i0 &&& (2147483647 : Int32)) (361 : Int32)) - (180 : Int32))), .val (.int ((HMod.hMod (i1 &&& (2147483647 : Int32)) (361 : Int32)) - (180 : Int32))), .val (.int ((HMod.hMod (i2 &&& (2147483647 : Int32)) (721 : Int32)) - (360 : Int32))), .val (.int ((HMod.hMod (i3 &&& (2147483647 : Int32)) (721 : Int32)) - (360 : Int32))), .val (.int (own_min ((HMod.hMod (i0 &&& (2147483647 : Int32)) (361 : Int32)) - (180 : Int32)) ((HMod.hMod (i1 &&& (2147483647 : Int32)) (361 : Int32)) - (180 : Int32)))), .val (.int (own_max ((HMod.hMod (i0 &&& (2147483647 : Int32)) (361 : Int32)) - (180 : Int32)) ((HMod.hMod (i1 &&& (2147483647 : Int32)) (361 : Int32)) - (180 : Int32)))), .val (.int (own_min ((HMod.hMod (i2 &&& (2147483647 : Int32)) (721 : Int32)) - (360 : Int32)) ((HMod.hMod (i3 &&& (2147483647 : Int32)) (721 : Int32)) - (360 : Int32)))), .val (.int (own_max ((HMod.hMod (i2 &&& (2147483647 : Int32)) (721 : Int32)) - (360 : Int32)) ((HMod.hMod (i3 &&& (2147483647 : Int32)) (721 : Int32)) - (360 : Int32)))), s14, s15, s16, s17]) (os0_90_own_A hs13) ?_
  exact kt
theorem os0_135_own_C1 {s0 : Slot} {s1 : Slot} {s2 : Slot} {s3 : Slot} {z4 : Value} {z5 : Value} {s6 : Slot} {s7 : Slot} {s8 : Slot} {s9 : Slot} {s10 : Slot} {s11 : Slot} {s12 : Slot} {s13 : Slot} {s14 : Slot} {s15 : Slot} {s16 : Slot} {s17 : Slot} {v : Int32} (h : One s15) : storeLocals #[s0, s1, s2, s3, .val z4, .val z5, s6, s7, s8, s9, s10, s11, s12, s13, s14, s15, s16, s17] 15 (.int v) = some #[s0, s1, s2, s3, .val z4, .val z5, s6, s7, s8, s9, s10, s11, s12, s13, s14, .val (.int v), s16, s17] := by
  rcases h with rfl | ⟨w, rfl, hw⟩
  · rfl
  · cases w <;> first | rfl | (simp [Value.category] at hw)
theorem os0_143_own_C1 {s0 : Slot} {s1 : Slot} {s2 : Slot} {s3 : Slot} {z4 : Value} {z5 : Value} {s6 : Slot} {s7 : Slot} {s8 : Slot} {s9 : Slot} {s10 : Slot} {s11 : Slot} {s12 : Slot} {s13 : Slot} {s14 : Slot} {z15 : Value} {s16 : Slot} {s17 : Slot} {v : Int32} (h : One s16) : storeLocals #[s0, s1, s2, s3, .val z4, .val z5, s6, s7, s8, s9, s10, s11, s12, s13, s14, .val z15, s16, s17] 16 (.int v) = some #[s0, s1, s2, s3, .val z4, .val z5, s6, s7, s8, s9, s10, s11, s12, s13, s14, .val z15, .val (.int v), s17] := by
  rcases h with rfl | ⟨w, rfl, hw⟩
  · rfl
  · cases w <;> first | rfl | (simp [Value.category] at hw)
set_option maxRecDepth 65536 in
set_option maxHeartbeats 40000000 in
theorem own_C1 {p : Program} {l : Launch} {e : Env} {s : State} {m : MethodId} {args : Array Value} {below : List Frame} {meth : Method} {c : Code} {T0 : State} {locs : List Loc} {cells slots : Nat} {Z : State} {a0 : Array Value} {h0 : Heap} (s0 : Slot) (s1 : Slot) (s2 : Slot) (s3 : Slot) (i4 : Int32) (i5 : Int32) (s6 : Slot) (s7 : Slot) (s8 : Slot) (s9 : Slot) (s10 : Slot) (s11 : Slot) (s12 : Slot) (s13 : Slot) (s14 : Slot) (s15 : Slot) (s16 : Slot) (s17 : Slot)
    (X0 : Stand p l e room_1 s m args below meth c T0 locs cells slots) (hx : p.tables.exec = Jvm.exec) (hZ : Z.Warmed39 s.vm) (hw : ∀ d ∈ tables_1, d.before a0 Z = true) (hby : c.code = code) (hml : c.maxLocals = 18) (hown : s.vm.findClass "com/example/tidegrid/tidegrid/BoxContainsPinLaw" = some m.cls) (e0 : T0.heap = h0) (hs15 : One s15) (hs16 : One s16) (hnz134 : ¬ ((401 : Int32) = (0 : Int32))) (hnz142 : ¬ ((721 : Int32) = (0 : Int32))) :
    ∃ (T' : State), Stand p l e room_1 s m args below meth c T' locs cells slots ∧ T'.heap = h0 ∧
      ∀ target, Steps p.tables e below (T'.setTop (mkF m 145 #[s0, s1, s2, s3, .val (.int i4), .val (.int i5), s6, s7, s8, s9, s10, s11, s12, s13, s14, .val (.int (HMod.hMod i4 (401 : Int32))), .val (.int (HMod.hMod i5 (721 : Int32))), s17] [])) target → Steps p.tables e below (T0.setTop (mkF m 129 #[s0, s1, s2, s3, .val (.int i4), .val (.int i5), s6, s7, s8, s9, s10, s11, s12, s13, s14, s15, s16, s17] [])) target := by
  refine ⟨T0, X0, e0, fun target kt => ?_⟩
  show Steps p.tables e below (T0.setTop (mkF m 129 #[s0, s1, s2, s3, .val (.int i4), .val (.int i5), s6, s7, s8, s9, s10, s11, s12, s13, s14, s15, s16, s17] [])) _
  refine XS.iload X0.here hx rfl (hb hby at_129) rfl ?_
  show Steps p.tables e below (T0.setTop (mkF m 131 #[s0, s1, s2, s3, .val (.int i4), .val (.int i5), s6, s7, s8, s9, s10, s11, s12, s13, s14, s15, s16, s17] [(.int i4)])) _
  refine XS.sipush X0.here hx rfl (hb hby at_131) ?_
  show Steps p.tables e below (T0.setTop (mkF m 134 #[s0, s1, s2, s3, .val (.int i4), .val (.int i5), s6, s7, s8, s9, s10, s11, s12, s13, s14, s15, s16, s17] [(.int (401 : Int32)), (.int i4)])) _
  refine Jvm.RoadKit.iremM X0 hx rfl (hb hby at_134) rfl hnz134 ?_
  show Steps p.tables e below (T0.setTop (mkF m 135 #[s0, s1, s2, s3, .val (.int i4), .val (.int i5), s6, s7, s8, s9, s10, s11, s12, s13, s14, s15, s16, s17] [(.int (HMod.hMod i4 (401 : Int32)))])) _
  refine XS.istore X0.here hx rfl (hb hby at_135) rfl (l' := #[s0, s1, s2, s3, .val (.int i4), .val (.int i5), s6, s7, s8, s9, s10, s11, s12, s13, s14, .val (.int (HMod.hMod i4 (401 : Int32))), s16, s17]) (os0_135_own_C1 hs15) ?_
  show Steps p.tables e below (T0.setTop (mkF m 137 #[s0, s1, s2, s3, .val (.int i4), .val (.int i5), s6, s7, s8, s9, s10, s11, s12, s13, s14, .val (.int (HMod.hMod i4 (401 : Int32))), s16, s17] [])) _
  refine XS.iload X0.here hx rfl (hb hby at_137) rfl ?_
  show Steps p.tables e below (T0.setTop (mkF m 139 #[s0, s1, s2, s3, .val (.int i4), .val (.int i5), s6, s7, s8, s9, s10, s11, s12, s13, s14, .val (.int (HMod.hMod i4 (401 : Int32))), s16, s17] [(.int i5)])) _
  refine XS.sipush X0.here hx rfl (hb hby at_139) ?_
  show Steps p.tables e below (T0.setTop (mkF m 142 #[s0, s1, s2, s3, .val (.int i4), .val (.int i5), s6, s7, s8, s9, s10, s11, s12, s13, s14, .val (.int (HMod.hMod i4 (401 : Int32))), s16, s17] [(.int (721 : Int32)), (.int i5)])) _
  refine Jvm.RoadKit.iremM X0 hx rfl (hb hby at_142) rfl hnz142 ?_
  show Steps p.tables e below (T0.setTop (mkF m 143 #[s0, s1, s2, s3, .val (.int i4), .val (.int i5), s6, s7, s8, s9, s10, s11, s12, s13, s14, .val (.int (HMod.hMod i4 (401 : Int32))), s16, s17] [(.int (HMod.hMod i5 (721 : Int32)))])) _
  refine XS.istore X0.here hx rfl (hb hby at_143) rfl (l' := #[s0, s1, s2, s3, .val (.int i4), .val (.int i5), s6, s7, s8, s9, s10, s11, s12, s13, s14, .val (.int (HMod.hMod i4 (401 : Int32))), .val (.int (HMod.hMod i5 (721 : Int32))), s17]) (os0_143_own_C1 hs16) ?_
  exact kt
theorem os0_178_own_Ca {s0 : Slot} {s1 : Slot} {s2 : Slot} {s3 : Slot} {s4 : Slot} {s5 : Slot} {s6 : Slot} {s7 : Slot} {s8 : Slot} {s9 : Slot} {z10 : Value} {s11 : Slot} {s12 : Slot} {s13 : Slot} {s14 : Slot} {z15 : Value} {s16 : Slot} {s17 : Slot} {v : Int32} (h : One s17) : storeLocals #[s0, s1, s2, s3, s4, s5, s6, s7, s8, s9, .val z10, s11, s12, s13, s14, .val z15, s16, s17] 17 (.int v) = some #[s0, s1, s2, s3, s4, s5, s6, s7, s8, s9, .val z10, s11, s12, s13, s14, .val z15, s16, .val (.int v)] := by
  rcases h with rfl | ⟨w, rfl, hw⟩
  · rfl
  · cases w <;> first | rfl | (simp [Value.category] at hw)
set_option maxRecDepth 65536 in
set_option maxHeartbeats 40000000 in
theorem own_Ca {p : Program} {l : Launch} {e : Env} {s : State} {m : MethodId} {args : Array Value} {below : List Frame} {meth : Method} {c : Code} {T0 : State} {locs : List Loc} {cells slots : Nat} {Z : State} {a0 : Array Value} {h0 : Heap} (s0 : Slot) (s1 : Slot) (s2 : Slot) (s3 : Slot) (s4 : Slot) (s5 : Slot) (s6 : Slot) (s7 : Slot) (s8 : Slot) (s9 : Slot) (i10 : Int32) (s11 : Slot) (s12 : Slot) (s13 : Slot) (s14 : Slot) (i15 : Int32) (s16 : Slot) (s17 : Slot)
    (X0 : Stand p l e room_1 s m args below meth c T0 locs cells slots) (hx : p.tables.exec = Jvm.exec) (hZ : Z.Warmed39 s.vm) (hw : ∀ d ∈ tables_1, d.before a0 Z = true) (hby : c.code = code) (hml : c.maxLocals = 18) (hown : s.vm.findClass "com/example/tidegrid/tidegrid/BoxContainsPinLaw" = some m.cls) (e0 : T0.heap = h0) (hs17 : One s17) (hc149 : i15 < i10) :
    ∃ (T' : State), Stand p l e room_1 s m args below meth c T' locs cells slots ∧ T'.heap = h0 ∧
      ∀ target, Steps p.tables e below (T'.setTop (mkF m 180 #[s0, s1, s2, s3, s4, s5, s6, s7, s8, s9, .val (.int i10), s11, s12, s13, s14, .val (.int i15), s16, .val (.int (0 : Int32))] [])) target → Steps p.tables e below (T0.setTop (mkF m 145 #[s0, s1, s2, s3, s4, s5, s6, s7, s8, s9, .val (.int i10), s11, s12, s13, s14, .val (.int i15), s16, s17] [])) target := by
  refine ⟨T0, X0, e0, fun target kt => ?_⟩
  show Steps p.tables e below (T0.setTop (mkF m 145 #[s0, s1, s2, s3, s4, s5, s6, s7, s8, s9, .val (.int i10), s11, s12, s13, s14, .val (.int i15), s16, s17] [])) _
  refine XS.iload X0.here hx rfl (hb hby at_145) rfl ?_
  show Steps p.tables e below (T0.setTop (mkF m 147 #[s0, s1, s2, s3, s4, s5, s6, s7, s8, s9, .val (.int i10), s11, s12, s13, s14, .val (.int i15), s16, s17] [(.int i10)])) _
  refine XS.iload X0.here hx rfl (hb hby at_147) rfl ?_
  show Steps p.tables e below (T0.setTop (mkF m 149 #[s0, s1, s2, s3, s4, s5, s6, s7, s8, s9, .val (.int i10), s11, s12, s13, s14, .val (.int i15), s16, s17] [(.int i15), (.int i10)])) _
  refine XS.icmpYes X0.here hx rfl (pc0 := 149) (pc' := 177) rfl (hb hby at_149) rfl (tlt hc149).2.2.1 (by decide) (by decide) ?_
  show Steps p.tables e below (T0.setTop (mkF m 177 #[s0, s1, s2, s3, s4, s5, s6, s7, s8, s9, .val (.int i10), s11, s12, s13, s14, .val (.int i15), s16, s17] [])) _
  refine XS.iconst X0.here hx rfl (hb hby at_177) ?_
  show Steps p.tables e below (T0.setTop (mkF m 178 #[s0, s1, s2, s3, s4, s5, s6, s7, s8, s9, .val (.int i10), s11, s12, s13, s14, .val (.int i15), s16, s17] [(.int (0 : Int32))])) _
  refine XS.istore X0.here hx rfl (hb hby at_178) rfl (l' := #[s0, s1, s2, s3, s4, s5, s6, s7, s8, s9, .val (.int i10), s11, s12, s13, s14, .val (.int i15), s16, .val (.int (0 : Int32))]) (os0_178_own_Ca hs17) ?_
  exact kt
theorem os0_178_own_Cb {s0 : Slot} {s1 : Slot} {s2 : Slot} {s3 : Slot} {s4 : Slot} {s5 : Slot} {s6 : Slot} {s7 : Slot} {s8 : Slot} {s9 : Slot} {z10 : Value} {z11 : Value} {s12 : Slot} {s13 : Slot} {s14 : Slot} {z15 : Value} {s16 : Slot} {s17 : Slot} {v : Int32} (h : One s17) : storeLocals #[s0, s1, s2, s3, s4, s5, s6, s7, s8, s9, .val z10, .val z11, s12, s13, s14, .val z15, s16, s17] 17 (.int v) = some #[s0, s1, s2, s3, s4, s5, s6, s7, s8, s9, .val z10, .val z11, s12, s13, s14, .val z15, s16, .val (.int v)] := by
  rcases h with rfl | ⟨w, rfl, hw⟩
  · rfl
  · cases w <;> first | rfl | (simp [Value.category] at hw)
set_option maxRecDepth 65536 in
set_option maxHeartbeats 40000000 in
theorem own_Cb {p : Program} {l : Launch} {e : Env} {s : State} {m : MethodId} {args : Array Value} {below : List Frame} {meth : Method} {c : Code} {T0 : State} {locs : List Loc} {cells slots : Nat} {Z : State} {a0 : Array Value} {h0 : Heap} (s0 : Slot) (s1 : Slot) (s2 : Slot) (s3 : Slot) (s4 : Slot) (s5 : Slot) (s6 : Slot) (s7 : Slot) (s8 : Slot) (s9 : Slot) (i10 : Int32) (i11 : Int32) (s12 : Slot) (s13 : Slot) (s14 : Slot) (i15 : Int32) (s16 : Slot) (s17 : Slot)
    (X0 : Stand p l e room_1 s m args below meth c T0 locs cells slots) (hx : p.tables.exec = Jvm.exec) (hZ : Z.Warmed39 s.vm) (hw : ∀ d ∈ tables_1, d.before a0 Z = true) (hby : c.code = code) (hml : c.maxLocals = 18) (hown : s.vm.findClass "com/example/tidegrid/tidegrid/BoxContainsPinLaw" = some m.cls) (e0 : T0.heap = h0) (hs17 : One s17) (hc149 : ¬ (i15 < i10)) (hc156 : i11 < i15) :
    ∃ (T' : State), Stand p l e room_1 s m args below meth c T' locs cells slots ∧ T'.heap = h0 ∧
      ∀ target, Steps p.tables e below (T'.setTop (mkF m 180 #[s0, s1, s2, s3, s4, s5, s6, s7, s8, s9, .val (.int i10), .val (.int i11), s12, s13, s14, .val (.int i15), s16, .val (.int (0 : Int32))] [])) target → Steps p.tables e below (T0.setTop (mkF m 145 #[s0, s1, s2, s3, s4, s5, s6, s7, s8, s9, .val (.int i10), .val (.int i11), s12, s13, s14, .val (.int i15), s16, s17] [])) target := by
  refine ⟨T0, X0, e0, fun target kt => ?_⟩
  show Steps p.tables e below (T0.setTop (mkF m 145 #[s0, s1, s2, s3, s4, s5, s6, s7, s8, s9, .val (.int i10), .val (.int i11), s12, s13, s14, .val (.int i15), s16, s17] [])) _
  refine XS.iload X0.here hx rfl (hb hby at_145) rfl ?_
  show Steps p.tables e below (T0.setTop (mkF m 147 #[s0, s1, s2, s3, s4, s5, s6, s7, s8, s9, .val (.int i10), .val (.int i11), s12, s13, s14, .val (.int i15), s16, s17] [(.int i10)])) _
  refine XS.iload X0.here hx rfl (hb hby at_147) rfl ?_
  show Steps p.tables e below (T0.setTop (mkF m 149 #[s0, s1, s2, s3, s4, s5, s6, s7, s8, s9, .val (.int i10), .val (.int i11), s12, s13, s14, .val (.int i15), s16, s17] [(.int i15), (.int i10)])) _
  refine XS.icmpNo X0.here hx rfl (hb hby at_149) rfl (flt hc149).2.2.1 ?_
  show Steps p.tables e below (T0.setTop (mkF m 152 #[s0, s1, s2, s3, s4, s5, s6, s7, s8, s9, .val (.int i10), .val (.int i11), s12, s13, s14, .val (.int i15), s16, s17] [])) _
  refine XS.iload X0.here hx rfl (hb hby at_152) rfl ?_
  show Steps p.tables e below (T0.setTop (mkF m 154 #[s0, s1, s2, s3, s4, s5, s6, s7, s8, s9, .val (.int i10), .val (.int i11), s12, s13, s14, .val (.int i15), s16, s17] [(.int i15)])) _
  refine XS.iload X0.here hx rfl (hb hby at_154) rfl ?_
  show Steps p.tables e below (T0.setTop (mkF m 156 #[s0, s1, s2, s3, s4, s5, s6, s7, s8, s9, .val (.int i10), .val (.int i11), s12, s13, s14, .val (.int i15), s16, s17] [(.int i11), (.int i15)])) _
  refine XS.icmpYes X0.here hx rfl (pc0 := 156) (pc' := 177) rfl (hb hby at_156) rfl (tlt hc156).2.2.1 (by decide) (by decide) ?_
  show Steps p.tables e below (T0.setTop (mkF m 177 #[s0, s1, s2, s3, s4, s5, s6, s7, s8, s9, .val (.int i10), .val (.int i11), s12, s13, s14, .val (.int i15), s16, s17] [])) _
  refine XS.iconst X0.here hx rfl (hb hby at_177) ?_
  show Steps p.tables e below (T0.setTop (mkF m 178 #[s0, s1, s2, s3, s4, s5, s6, s7, s8, s9, .val (.int i10), .val (.int i11), s12, s13, s14, .val (.int i15), s16, s17] [(.int (0 : Int32))])) _
  refine XS.istore X0.here hx rfl (hb hby at_178) rfl (l' := #[s0, s1, s2, s3, s4, s5, s6, s7, s8, s9, .val (.int i10), .val (.int i11), s12, s13, s14, .val (.int i15), s16, .val (.int (0 : Int32))]) (os0_178_own_Cb hs17) ?_
  exact kt
theorem os0_178_own_Cc {s0 : Slot} {s1 : Slot} {s2 : Slot} {s3 : Slot} {s4 : Slot} {s5 : Slot} {s6 : Slot} {s7 : Slot} {s8 : Slot} {s9 : Slot} {z10 : Value} {z11 : Value} {z12 : Value} {s13 : Slot} {s14 : Slot} {z15 : Value} {z16 : Value} {s17 : Slot} {v : Int32} (h : One s17) : storeLocals #[s0, s1, s2, s3, s4, s5, s6, s7, s8, s9, .val z10, .val z11, .val z12, s13, s14, .val z15, .val z16, s17] 17 (.int v) = some #[s0, s1, s2, s3, s4, s5, s6, s7, s8, s9, .val z10, .val z11, .val z12, s13, s14, .val z15, .val z16, .val (.int v)] := by
  rcases h with rfl | ⟨w, rfl, hw⟩
  · rfl
  · cases w <;> first | rfl | (simp [Value.category] at hw)
set_option maxRecDepth 65536 in
set_option maxHeartbeats 40000000 in
theorem own_Cc {p : Program} {l : Launch} {e : Env} {s : State} {m : MethodId} {args : Array Value} {below : List Frame} {meth : Method} {c : Code} {T0 : State} {locs : List Loc} {cells slots : Nat} {Z : State} {a0 : Array Value} {h0 : Heap} (s0 : Slot) (s1 : Slot) (s2 : Slot) (s3 : Slot) (s4 : Slot) (s5 : Slot) (s6 : Slot) (s7 : Slot) (s8 : Slot) (s9 : Slot) (i10 : Int32) (i11 : Int32) (i12 : Int32) (s13 : Slot) (s14 : Slot) (i15 : Int32) (i16 : Int32) (s17 : Slot)
    (X0 : Stand p l e room_1 s m args below meth c T0 locs cells slots) (hx : p.tables.exec = Jvm.exec) (hZ : Z.Warmed39 s.vm) (hw : ∀ d ∈ tables_1, d.before a0 Z = true) (hby : c.code = code) (hml : c.maxLocals = 18) (hown : s.vm.findClass "com/example/tidegrid/tidegrid/BoxContainsPinLaw" = some m.cls) (e0 : T0.heap = h0) (hs17 : One s17) (hc149 : ¬ (i15 < i10)) (hc156 : ¬ (i11 < i15)) (hc163 : i16 < i12) :
    ∃ (T' : State), Stand p l e room_1 s m args below meth c T' locs cells slots ∧ T'.heap = h0 ∧
      ∀ target, Steps p.tables e below (T'.setTop (mkF m 180 #[s0, s1, s2, s3, s4, s5, s6, s7, s8, s9, .val (.int i10), .val (.int i11), .val (.int i12), s13, s14, .val (.int i15), .val (.int i16), .val (.int (0 : Int32))] [])) target → Steps p.tables e below (T0.setTop (mkF m 145 #[s0, s1, s2, s3, s4, s5, s6, s7, s8, s9, .val (.int i10), .val (.int i11), .val (.int i12), s13, s14, .val (.int i15), .val (.int i16), s17] [])) target := by
  refine ⟨T0, X0, e0, fun target kt => ?_⟩
  show Steps p.tables e below (T0.setTop (mkF m 145 #[s0, s1, s2, s3, s4, s5, s6, s7, s8, s9, .val (.int i10), .val (.int i11), .val (.int i12), s13, s14, .val (.int i15), .val (.int i16), s17] [])) _
  refine XS.iload X0.here hx rfl (hb hby at_145) rfl ?_
  show Steps p.tables e below (T0.setTop (mkF m 147 #[s0, s1, s2, s3, s4, s5, s6, s7, s8, s9, .val (.int i10), .val (.int i11), .val (.int i12), s13, s14, .val (.int i15), .val (.int i16), s17] [(.int i10)])) _
  refine XS.iload X0.here hx rfl (hb hby at_147) rfl ?_
  show Steps p.tables e below (T0.setTop (mkF m 149 #[s0, s1, s2, s3, s4, s5, s6, s7, s8, s9, .val (.int i10), .val (.int i11), .val (.int i12), s13, s14, .val (.int i15), .val (.int i16), s17] [(.int i15), (.int i10)])) _
  refine XS.icmpNo X0.here hx rfl (hb hby at_149) rfl (flt hc149).2.2.1 ?_
  show Steps p.tables e below (T0.setTop (mkF m 152 #[s0, s1, s2, s3, s4, s5, s6, s7, s8, s9, .val (.int i10), .val (.int i11), .val (.int i12), s13, s14, .val (.int i15), .val (.int i16), s17] [])) _
  refine XS.iload X0.here hx rfl (hb hby at_152) rfl ?_
  show Steps p.tables e below (T0.setTop (mkF m 154 #[s0, s1, s2, s3, s4, s5, s6, s7, s8, s9, .val (.int i10), .val (.int i11), .val (.int i12), s13, s14, .val (.int i15), .val (.int i16), s17] [(.int i15)])) _
  refine XS.iload X0.here hx rfl (hb hby at_154) rfl ?_
  show Steps p.tables e below (T0.setTop (mkF m 156 #[s0, s1, s2, s3, s4, s5, s6, s7, s8, s9, .val (.int i10), .val (.int i11), .val (.int i12), s13, s14, .val (.int i15), .val (.int i16), s17] [(.int i11), (.int i15)])) _
  refine XS.icmpNo X0.here hx rfl (hb hby at_156) rfl (flt hc156).2.2.1 ?_
  show Steps p.tables e below (T0.setTop (mkF m 159 #[s0, s1, s2, s3, s4, s5, s6, s7, s8, s9, .val (.int i10), .val (.int i11), .val (.int i12), s13, s14, .val (.int i15), .val (.int i16), s17] [])) _
  refine XS.iload X0.here hx rfl (hb hby at_159) rfl ?_
  show Steps p.tables e below (T0.setTop (mkF m 161 #[s0, s1, s2, s3, s4, s5, s6, s7, s8, s9, .val (.int i10), .val (.int i11), .val (.int i12), s13, s14, .val (.int i15), .val (.int i16), s17] [(.int i12)])) _
  refine XS.iload X0.here hx rfl (hb hby at_161) rfl ?_
  show Steps p.tables e below (T0.setTop (mkF m 163 #[s0, s1, s2, s3, s4, s5, s6, s7, s8, s9, .val (.int i10), .val (.int i11), .val (.int i12), s13, s14, .val (.int i15), .val (.int i16), s17] [(.int i16), (.int i12)])) _
  refine XS.icmpYes X0.here hx rfl (pc0 := 163) (pc' := 177) rfl (hb hby at_163) rfl (tlt hc163).2.2.1 (by decide) (by decide) ?_
  show Steps p.tables e below (T0.setTop (mkF m 177 #[s0, s1, s2, s3, s4, s5, s6, s7, s8, s9, .val (.int i10), .val (.int i11), .val (.int i12), s13, s14, .val (.int i15), .val (.int i16), s17] [])) _
  refine XS.iconst X0.here hx rfl (hb hby at_177) ?_
  show Steps p.tables e below (T0.setTop (mkF m 178 #[s0, s1, s2, s3, s4, s5, s6, s7, s8, s9, .val (.int i10), .val (.int i11), .val (.int i12), s13, s14, .val (.int i15), .val (.int i16), s17] [(.int (0 : Int32))])) _
  refine XS.istore X0.here hx rfl (hb hby at_178) rfl (l' := #[s0, s1, s2, s3, s4, s5, s6, s7, s8, s9, .val (.int i10), .val (.int i11), .val (.int i12), s13, s14, .val (.int i15), .val (.int i16), .val (.int (0 : Int32))]) (os0_178_own_Cc hs17) ?_
  exact kt
theorem os0_178_own_Cd {s0 : Slot} {s1 : Slot} {s2 : Slot} {s3 : Slot} {s4 : Slot} {s5 : Slot} {s6 : Slot} {s7 : Slot} {s8 : Slot} {s9 : Slot} {z10 : Value} {z11 : Value} {z12 : Value} {z13 : Value} {s14 : Slot} {z15 : Value} {z16 : Value} {s17 : Slot} {v : Int32} (h : One s17) : storeLocals #[s0, s1, s2, s3, s4, s5, s6, s7, s8, s9, .val z10, .val z11, .val z12, .val z13, s14, .val z15, .val z16, s17] 17 (.int v) = some #[s0, s1, s2, s3, s4, s5, s6, s7, s8, s9, .val z10, .val z11, .val z12, .val z13, s14, .val z15, .val z16, .val (.int v)] := by
  rcases h with rfl | ⟨w, rfl, hw⟩
  · rfl
  · cases w <;> first | rfl | (simp [Value.category] at hw)
set_option maxRecDepth 65536 in
set_option maxHeartbeats 40000000 in
theorem own_Cd {p : Program} {l : Launch} {e : Env} {s : State} {m : MethodId} {args : Array Value} {below : List Frame} {meth : Method} {c : Code} {T0 : State} {locs : List Loc} {cells slots : Nat} {Z : State} {a0 : Array Value} {h0 : Heap} (s0 : Slot) (s1 : Slot) (s2 : Slot) (s3 : Slot) (s4 : Slot) (s5 : Slot) (s6 : Slot) (s7 : Slot) (s8 : Slot) (s9 : Slot) (i10 : Int32) (i11 : Int32) (i12 : Int32) (i13 : Int32) (s14 : Slot) (i15 : Int32) (i16 : Int32) (s17 : Slot)
    (X0 : Stand p l e room_1 s m args below meth c T0 locs cells slots) (hx : p.tables.exec = Jvm.exec) (hZ : Z.Warmed39 s.vm) (hw : ∀ d ∈ tables_1, d.before a0 Z = true) (hby : c.code = code) (hml : c.maxLocals = 18) (hown : s.vm.findClass "com/example/tidegrid/tidegrid/BoxContainsPinLaw" = some m.cls) (e0 : T0.heap = h0) (hs17 : One s17) (hc149 : ¬ (i15 < i10)) (hc156 : ¬ (i11 < i15)) (hc163 : ¬ (i16 < i12)) (hc170 : i13 < i16) :
    ∃ (T' : State), Stand p l e room_1 s m args below meth c T' locs cells slots ∧ T'.heap = h0 ∧
      ∀ target, Steps p.tables e below (T'.setTop (mkF m 180 #[s0, s1, s2, s3, s4, s5, s6, s7, s8, s9, .val (.int i10), .val (.int i11), .val (.int i12), .val (.int i13), s14, .val (.int i15), .val (.int i16), .val (.int (0 : Int32))] [])) target → Steps p.tables e below (T0.setTop (mkF m 145 #[s0, s1, s2, s3, s4, s5, s6, s7, s8, s9, .val (.int i10), .val (.int i11), .val (.int i12), .val (.int i13), s14, .val (.int i15), .val (.int i16), s17] [])) target := by
  refine ⟨T0, X0, e0, fun target kt => ?_⟩
  show Steps p.tables e below (T0.setTop (mkF m 145 #[s0, s1, s2, s3, s4, s5, s6, s7, s8, s9, .val (.int i10), .val (.int i11), .val (.int i12), .val (.int i13), s14, .val (.int i15), .val (.int i16), s17] [])) _
  refine XS.iload X0.here hx rfl (hb hby at_145) rfl ?_
  show Steps p.tables e below (T0.setTop (mkF m 147 #[s0, s1, s2, s3, s4, s5, s6, s7, s8, s9, .val (.int i10), .val (.int i11), .val (.int i12), .val (.int i13), s14, .val (.int i15), .val (.int i16), s17] [(.int i10)])) _
  refine XS.iload X0.here hx rfl (hb hby at_147) rfl ?_
  show Steps p.tables e below (T0.setTop (mkF m 149 #[s0, s1, s2, s3, s4, s5, s6, s7, s8, s9, .val (.int i10), .val (.int i11), .val (.int i12), .val (.int i13), s14, .val (.int i15), .val (.int i16), s17] [(.int i15), (.int i10)])) _
  refine XS.icmpNo X0.here hx rfl (hb hby at_149) rfl (flt hc149).2.2.1 ?_
  show Steps p.tables e below (T0.setTop (mkF m 152 #[s0, s1, s2, s3, s4, s5, s6, s7, s8, s9, .val (.int i10), .val (.int i11), .val (.int i12), .val (.int i13), s14, .val (.int i15), .val (.int i16), s17] [])) _
  refine XS.iload X0.here hx rfl (hb hby at_152) rfl ?_
  show Steps p.tables e below (T0.setTop (mkF m 154 #[s0, s1, s2, s3, s4, s5, s6, s7, s8, s9, .val (.int i10), .val (.int i11), .val (.int i12), .val (.int i13), s14, .val (.int i15), .val (.int i16), s17] [(.int i15)])) _
  refine XS.iload X0.here hx rfl (hb hby at_154) rfl ?_
  show Steps p.tables e below (T0.setTop (mkF m 156 #[s0, s1, s2, s3, s4, s5, s6, s7, s8, s9, .val (.int i10), .val (.int i11), .val (.int i12), .val (.int i13), s14, .val (.int i15), .val (.int i16), s17] [(.int i11), (.int i15)])) _
  refine XS.icmpNo X0.here hx rfl (hb hby at_156) rfl (flt hc156).2.2.1 ?_
  show Steps p.tables e below (T0.setTop (mkF m 159 #[s0, s1, s2, s3, s4, s5, s6, s7, s8, s9, .val (.int i10), .val (.int i11), .val (.int i12), .val (.int i13), s14, .val (.int i15), .val (.int i16), s17] [])) _
  refine XS.iload X0.here hx rfl (hb hby at_159) rfl ?_
  show Steps p.tables e below (T0.setTop (mkF m 161 #[s0, s1, s2, s3, s4, s5, s6, s7, s8, s9, .val (.int i10), .val (.int i11), .val (.int i12), .val (.int i13), s14, .val (.int i15), .val (.int i16), s17] [(.int i12)])) _
  refine XS.iload X0.here hx rfl (hb hby at_161) rfl ?_
  show Steps p.tables e below (T0.setTop (mkF m 163 #[s0, s1, s2, s3, s4, s5, s6, s7, s8, s9, .val (.int i10), .val (.int i11), .val (.int i12), .val (.int i13), s14, .val (.int i15), .val (.int i16), s17] [(.int i16), (.int i12)])) _
  refine XS.icmpNo X0.here hx rfl (hb hby at_163) rfl (flt hc163).2.2.1 ?_
  show Steps p.tables e below (T0.setTop (mkF m 166 #[s0, s1, s2, s3, s4, s5, s6, s7, s8, s9, .val (.int i10), .val (.int i11), .val (.int i12), .val (.int i13), s14, .val (.int i15), .val (.int i16), s17] [])) _
  refine XS.iload X0.here hx rfl (hb hby at_166) rfl ?_
  show Steps p.tables e below (T0.setTop (mkF m 168 #[s0, s1, s2, s3, s4, s5, s6, s7, s8, s9, .val (.int i10), .val (.int i11), .val (.int i12), .val (.int i13), s14, .val (.int i15), .val (.int i16), s17] [(.int i16)])) _
  refine XS.iload X0.here hx rfl (hb hby at_168) rfl ?_
  show Steps p.tables e below (T0.setTop (mkF m 170 #[s0, s1, s2, s3, s4, s5, s6, s7, s8, s9, .val (.int i10), .val (.int i11), .val (.int i12), .val (.int i13), s14, .val (.int i15), .val (.int i16), s17] [(.int i13), (.int i16)])) _
  refine XS.icmpYes X0.here hx rfl (pc0 := 170) (pc' := 177) rfl (hb hby at_170) rfl (tlt hc170).2.2.1 (by decide) (by decide) ?_
  show Steps p.tables e below (T0.setTop (mkF m 177 #[s0, s1, s2, s3, s4, s5, s6, s7, s8, s9, .val (.int i10), .val (.int i11), .val (.int i12), .val (.int i13), s14, .val (.int i15), .val (.int i16), s17] [])) _
  refine XS.iconst X0.here hx rfl (hb hby at_177) ?_
  show Steps p.tables e below (T0.setTop (mkF m 178 #[s0, s1, s2, s3, s4, s5, s6, s7, s8, s9, .val (.int i10), .val (.int i11), .val (.int i12), .val (.int i13), s14, .val (.int i15), .val (.int i16), s17] [(.int (0 : Int32))])) _
  refine XS.istore X0.here hx rfl (hb hby at_178) rfl (l' := #[s0, s1, s2, s3, s4, s5, s6, s7, s8, s9, .val (.int i10), .val (.int i11), .val (.int i12), .val (.int i13), s14, .val (.int i15), .val (.int i16), .val (.int (0 : Int32))]) (os0_178_own_Cd hs17) ?_
  exact kt
theorem os0_178_own_Ce {s0 : Slot} {s1 : Slot} {s2 : Slot} {s3 : Slot} {s4 : Slot} {s5 : Slot} {s6 : Slot} {s7 : Slot} {s8 : Slot} {s9 : Slot} {z10 : Value} {z11 : Value} {z12 : Value} {z13 : Value} {s14 : Slot} {z15 : Value} {z16 : Value} {s17 : Slot} {v : Int32} (h : One s17) : storeLocals #[s0, s1, s2, s3, s4, s5, s6, s7, s8, s9, .val z10, .val z11, .val z12, .val z13, s14, .val z15, .val z16, s17] 17 (.int v) = some #[s0, s1, s2, s3, s4, s5, s6, s7, s8, s9, .val z10, .val z11, .val z12, .val z13, s14, .val z15, .val z16, .val (.int v)] := by
  rcases h with rfl | ⟨w, rfl, hw⟩
  · rfl
  · cases w <;> first | rfl | (simp [Value.category] at hw)
set_option maxRecDepth 65536 in
set_option maxHeartbeats 40000000 in
theorem own_Ce {p : Program} {l : Launch} {e : Env} {s : State} {m : MethodId} {args : Array Value} {below : List Frame} {meth : Method} {c : Code} {T0 : State} {locs : List Loc} {cells slots : Nat} {Z : State} {a0 : Array Value} {h0 : Heap} (s0 : Slot) (s1 : Slot) (s2 : Slot) (s3 : Slot) (s4 : Slot) (s5 : Slot) (s6 : Slot) (s7 : Slot) (s8 : Slot) (s9 : Slot) (i10 : Int32) (i11 : Int32) (i12 : Int32) (i13 : Int32) (s14 : Slot) (i15 : Int32) (i16 : Int32) (s17 : Slot)
    (X0 : Stand p l e room_1 s m args below meth c T0 locs cells slots) (hx : p.tables.exec = Jvm.exec) (hZ : Z.Warmed39 s.vm) (hw : ∀ d ∈ tables_1, d.before a0 Z = true) (hby : c.code = code) (hml : c.maxLocals = 18) (hown : s.vm.findClass "com/example/tidegrid/tidegrid/BoxContainsPinLaw" = some m.cls) (e0 : T0.heap = h0) (hs17 : One s17) (hc149 : ¬ (i15 < i10)) (hc156 : ¬ (i11 < i15)) (hc163 : ¬ (i16 < i12)) (hc170 : ¬ (i13 < i16)) :
    ∃ (T' : State), Stand p l e room_1 s m args below meth c T' locs cells slots ∧ T'.heap = h0 ∧
      ∀ target, Steps p.tables e below (T'.setTop (mkF m 180 #[s0, s1, s2, s3, s4, s5, s6, s7, s8, s9, .val (.int i10), .val (.int i11), .val (.int i12), .val (.int i13), s14, .val (.int i15), .val (.int i16), .val (.int (1 : Int32))] [])) target → Steps p.tables e below (T0.setTop (mkF m 145 #[s0, s1, s2, s3, s4, s5, s6, s7, s8, s9, .val (.int i10), .val (.int i11), .val (.int i12), .val (.int i13), s14, .val (.int i15), .val (.int i16), s17] [])) target := by
  refine ⟨T0, X0, e0, fun target kt => ?_⟩
  show Steps p.tables e below (T0.setTop (mkF m 145 #[s0, s1, s2, s3, s4, s5, s6, s7, s8, s9, .val (.int i10), .val (.int i11), .val (.int i12), .val (.int i13), s14, .val (.int i15), .val (.int i16), s17] [])) _
  refine XS.iload X0.here hx rfl (hb hby at_145) rfl ?_
  show Steps p.tables e below (T0.setTop (mkF m 147 #[s0, s1, s2, s3, s4, s5, s6, s7, s8, s9, .val (.int i10), .val (.int i11), .val (.int i12), .val (.int i13), s14, .val (.int i15), .val (.int i16), s17] [(.int i10)])) _
  refine XS.iload X0.here hx rfl (hb hby at_147) rfl ?_
  show Steps p.tables e below (T0.setTop (mkF m 149 #[s0, s1, s2, s3, s4, s5, s6, s7, s8, s9, .val (.int i10), .val (.int i11), .val (.int i12), .val (.int i13), s14, .val (.int i15), .val (.int i16), s17] [(.int i15), (.int i10)])) _
  refine XS.icmpNo X0.here hx rfl (hb hby at_149) rfl (flt hc149).2.2.1 ?_
  show Steps p.tables e below (T0.setTop (mkF m 152 #[s0, s1, s2, s3, s4, s5, s6, s7, s8, s9, .val (.int i10), .val (.int i11), .val (.int i12), .val (.int i13), s14, .val (.int i15), .val (.int i16), s17] [])) _
  refine XS.iload X0.here hx rfl (hb hby at_152) rfl ?_
  show Steps p.tables e below (T0.setTop (mkF m 154 #[s0, s1, s2, s3, s4, s5, s6, s7, s8, s9, .val (.int i10), .val (.int i11), .val (.int i12), .val (.int i13), s14, .val (.int i15), .val (.int i16), s17] [(.int i15)])) _
  refine XS.iload X0.here hx rfl (hb hby at_154) rfl ?_
  show Steps p.tables e below (T0.setTop (mkF m 156 #[s0, s1, s2, s3, s4, s5, s6, s7, s8, s9, .val (.int i10), .val (.int i11), .val (.int i12), .val (.int i13), s14, .val (.int i15), .val (.int i16), s17] [(.int i11), (.int i15)])) _
  refine XS.icmpNo X0.here hx rfl (hb hby at_156) rfl (flt hc156).2.2.1 ?_
  show Steps p.tables e below (T0.setTop (mkF m 159 #[s0, s1, s2, s3, s4, s5, s6, s7, s8, s9, .val (.int i10), .val (.int i11), .val (.int i12), .val (.int i13), s14, .val (.int i15), .val (.int i16), s17] [])) _
  refine XS.iload X0.here hx rfl (hb hby at_159) rfl ?_
  show Steps p.tables e below (T0.setTop (mkF m 161 #[s0, s1, s2, s3, s4, s5, s6, s7, s8, s9, .val (.int i10), .val (.int i11), .val (.int i12), .val (.int i13), s14, .val (.int i15), .val (.int i16), s17] [(.int i12)])) _
  refine XS.iload X0.here hx rfl (hb hby at_161) rfl ?_
  show Steps p.tables e below (T0.setTop (mkF m 163 #[s0, s1, s2, s3, s4, s5, s6, s7, s8, s9, .val (.int i10), .val (.int i11), .val (.int i12), .val (.int i13), s14, .val (.int i15), .val (.int i16), s17] [(.int i16), (.int i12)])) _
  refine XS.icmpNo X0.here hx rfl (hb hby at_163) rfl (flt hc163).2.2.1 ?_
  show Steps p.tables e below (T0.setTop (mkF m 166 #[s0, s1, s2, s3, s4, s5, s6, s7, s8, s9, .val (.int i10), .val (.int i11), .val (.int i12), .val (.int i13), s14, .val (.int i15), .val (.int i16), s17] [])) _
  refine XS.iload X0.here hx rfl (hb hby at_166) rfl ?_
  show Steps p.tables e below (T0.setTop (mkF m 168 #[s0, s1, s2, s3, s4, s5, s6, s7, s8, s9, .val (.int i10), .val (.int i11), .val (.int i12), .val (.int i13), s14, .val (.int i15), .val (.int i16), s17] [(.int i16)])) _
  refine XS.iload X0.here hx rfl (hb hby at_168) rfl ?_
  show Steps p.tables e below (T0.setTop (mkF m 170 #[s0, s1, s2, s3, s4, s5, s6, s7, s8, s9, .val (.int i10), .val (.int i11), .val (.int i12), .val (.int i13), s14, .val (.int i15), .val (.int i16), s17] [(.int i13), (.int i16)])) _
  refine XS.icmpNo X0.here hx rfl (hb hby at_170) rfl (flt hc170).2.2.1 ?_
  show Steps p.tables e below (T0.setTop (mkF m 173 #[s0, s1, s2, s3, s4, s5, s6, s7, s8, s9, .val (.int i10), .val (.int i11), .val (.int i12), .val (.int i13), s14, .val (.int i15), .val (.int i16), s17] [])) _
  refine XS.iconst X0.here hx rfl (hb hby at_173) ?_
  show Steps p.tables e below (T0.setTop (mkF m 174 #[s0, s1, s2, s3, s4, s5, s6, s7, s8, s9, .val (.int i10), .val (.int i11), .val (.int i12), .val (.int i13), s14, .val (.int i15), .val (.int i16), s17] [(.int (1 : Int32))])) _
  refine XS.goto X0.here hx rfl (pc0 := 174) (pc' := 178) rfl (hb hby at_174) (by decide) (by decide) ?_
  show Steps p.tables e below (T0.setTop (mkF m 178 #[s0, s1, s2, s3, s4, s5, s6, s7, s8, s9, .val (.int i10), .val (.int i11), .val (.int i12), .val (.int i13), s14, .val (.int i15), .val (.int i16), s17] [(.int (1 : Int32))])) _
  refine XS.istore X0.here hx rfl (hb hby at_178) rfl (l' := #[s0, s1, s2, s3, s4, s5, s6, s7, s8, s9, .val (.int i10), .val (.int i11), .val (.int i12), .val (.int i13), s14, .val (.int i15), .val (.int i16), .val (.int (1 : Int32))]) (os0_178_own_Ce hs17) ?_
  exact kt
theorem pd_0_1 : parseMethodDescriptor "(DDDD)V" = some ⟨[.double, .double, .double, .double], none⟩ := by decide +kernel
theorem os0_127_B {s0 : Slot} {s1 : Slot} {s2 : Slot} {s3 : Slot} {s4 : Slot} {s5 : Slot} {s6 : Slot} {s7 : Slot} {s8 : Slot} {s9 : Slot} {z10 : Value} {z11 : Value} {z12 : Value} {z13 : Value} {s14 : Slot} {s15 : Slot} {s16 : Slot} {s17 : Slot} {v : Addr} (h : One s14) : storeLocals #[s0, s1, s2, s3, s4, s5, s6, s7, s8, s9, .val z10, .val z11, .val z12, .val z13, s14, s15, s16, s17] 14 (.ref v) = some #[s0, s1, s2, s3, s4, s5, s6, s7, s8, s9, .val z10, .val z11, .val z12, .val z13, .val (.ref v), s15, s16, s17] := by
  rcases h with rfl | ⟨w, rfl, hw⟩
  · rfl
  · cases w <;> first | rfl | (simp [Value.category] at hw)
set_option maxRecDepth 65536 in
set_option maxHeartbeats 40000000 in
theorem own_Bb {p : Program} {l : Launch} {e : Env} {s : State} {m : MethodId} {args : Array Value} {below : List Frame} {meth : Method} {c : Code} {T0 : State} {locs : List Loc} {Z : State} {a0 : Array Value} {h0 : Heap} (s0 : Slot) (s1 : Slot) (s2 : Slot) (s3 : Slot) (s4 : Slot) (s5 : Slot) (s6 : Slot) (s7 : Slot) (s8 : Slot) (s9 : Slot) (i10 : Int32) (i11 : Int32) (i12 : Int32) (i13 : Int32) (s14 : Slot) (s15 : Slot) (s16 : Slot) (s17 : Slot) (n0 : Nat)
    (X0 : Stand p l e room_1 s m args below meth c T0 locs 0 0) (hx : p.tables.exec = Jvm.exec) (hZ : Z.Warmed39 s.vm) (hw : ∀ d ∈ tables_1, d.before a0 Z = true) (hby : c.code = code) (hml : c.maxLocals = 18) (hown : s.vm.findClass "com/example/tidegrid/tidegrid/BoxContainsPinLaw" = some m.cls) (e0 : T0.heap = h0) (hwS : ∀ d ∈ Bundle.stringAtoms, d.before a0 Z = true) (hEL : EW Z a0 own_EL) (hC : CHv Z own_EL s.vm h0) (Z0 : n0 ≤ h0.size) (N0 : Fr n0 locs) (CS : own_CS Z Z.heap) (O : Old Z n0 h0) (R1 : own_Rg i10) (R2 : own_Rg i12) (R3 : own_Rg i11) (R4 : own_Rg i13) (l1 : ¬ i10 < (-180 : Int32)) (l2 : ¬ i12 < (-360 : Int32)) (l3 : ¬ i11 < (-180 : Int32)) (l4 : ¬ i13 < (-360 : Int32)) (u1_ : ¬ (180 : Int32) < i10) (u2_ : ¬ (360 : Int32) < i12) (u3_ : ¬ (180 : Int32) < i11) (u4_ : ¬ (360 : Int32) < i13) (o1 : ¬ i11 < i10) (o2 : ¬ i13 < i12) (hs14 : One s14) :
    ∃ (T' : State) (vm' : Vm) (locs' : List Loc) (b7 : Addr), Stand p l e room_1 (s.setVm vm') m args below meth c T' locs' 31 644 ∧ s.Since vm' T'.heap.size ∧ Fr n0 locs' ∧ Keep h0 T'.heap [] ∧ own_Bx Z T'.heap b7 (own_hf i10) (own_hf i12) (own_hf i11) (own_hf i13) ∧ T'.vm = vm' ∧
      ∀ target, Steps p.tables e below (T'.setTop (mkF m 129 #[s0, s1, s2, s3, s4, s5, s6, s7, s8, s9, .val (.int i10), .val (.int i11), .val (.int i12), .val (.int i13), .val (.ref b7), s15, s16, s17] [])) target → Steps p.tables e below (T0.setTop (mkF m 92 #[s0, s1, s2, s3, s4, s5, s6, s7, s8, s9, .val (.int i10), .val (.int i11), .val (.int i12), .val (.int i13), s14, s15, s16, s17] [])) target := by
  obtain ⟨T7, h7, X7, e7, E7, A7, D7, -, st7⟩ := newO X0 hx hZ hown (hw _ (List.mem_of_getElem? (i := 8) rfl)) (hw _ (List.mem_of_getElem? (i := 9) rfl)) (hw _ (List.mem_of_getElem? (i := 10) rfl)) e0 (g := (mkF m 92 #[s0, s1, s2, s3, s4, s5, s6, s7, s8, s9, .val (.int i10), .val (.int i11), .val (.int i12), .val (.int i13), s14, s15, s16, s17] [])) rfl (hb hby at_92) (by decide) (by decide)
  obtain ⟨b7, g7⟩ : ∃ z, z = h0.size := ⟨_, rfl⟩
  rw [← g7] at A7 D7 st7
  have F_minLat_b7 : Fld Z h7 b7 "com/example/tidegrid/tidegrid/Box" "minLat" "D" _ := D7 (Or.inr (hw _ (List.mem_of_getElem? (i := 177) rfl))) (ty := .double) (by decide)
  have F_minLon_b7 : Fld Z h7 b7 "com/example/tidegrid/tidegrid/Box" "minLon" "D" _ := D7 (Or.inr (hw _ (List.mem_of_getElem? (i := 179) rfl))) (ty := .double) (by decide)
  have F_maxLat_b7 : Fld Z h7 b7 "com/example/tidegrid/tidegrid/Box" "maxLat" "D" _ := D7 (Or.inr (hw _ (List.mem_of_getElem? (i := 181) rfl))) (ty := .double) (by decide)
  have F_maxLon_b7 : Fld Z h7 b7 "com/example/tidegrid/tidegrid/Box" "maxLon" "D" _ := D7 (Or.inr (hw _ (List.mem_of_getElem? (i := 183) rfl))) (ty := .double) (by decide)
  have E_b7 := A7
  have g_b7 : n0 ≤ b7 := Nat.le_trans Z0 (Nat.le_of_eq g7.symm)
  have sz_b7 : h0.size ≤ b7 := (Nat.le_trans (Keep.refl h0 []).1 (Nat.le_of_eq g7.symm))
  have K7 : Keep h0 h7 [] := (Keep.refl h0 []).ext E7
  obtain ⟨_, _, ⟨T8, L8, k8, n8⟩, -, X8, S8, hz8, ⟨Lc8, hQ8, l8, y8, z8, C8⟩, st8⟩ := X7.specialBackS (s := s) hx (y := (⟨"com/example/tidegrid/tidegrid/Box", "<init>", "(DDDD)V"⟩ : MethodName)) rfl hown (mvT hZ (hw _ (List.mem_of_getElem? (i := 12) rfl))) (mvT hZ (hw _ (List.mem_of_getElem? (i := 13) rfl))) (mvT hZ (hw _ (List.mem_of_getElem? (i := 14) rfl))) (by decide) (backOfSH (s := s) (vm0 := s.vm) (W := 1) (r3 l Z a0 hw hwS hEL [] b7 i10 i12 i11 i13 _ _ _ _ h7 n0 (Nat.le_trans Z0 E7.1) E_b7 F_minLat_b7 F_minLon_b7 F_maxLat_b7 F_maxLon_b7 g_b7 CS (O.ext E7) R1 R2 R3 R4 l1 l2 l3 l4 u1_ u2_ u3_ u4_ o1 o2) hZ (hw _ (List.mem_of_getElem? (i := 14) rfl)) (hw _ (List.mem_of_getElem? (i := 10) rfl)) (by decide) (by decide) hEL (hC.ext E7)) (g := (mkF m 124 #[s0, s1, s2, s3, s4, s5, s6, s7, s8, s9, .val (.int i10), .val (.int i11), .val (.int i12), .val (.int i13), s14, s15, s16, s17] [(.double (own_hf i13)), (.double (own_hf i11)), (.double (own_hf i12)), (.double (own_hf i10)), (.ref b7), (.ref b7)])) rfl (by rw [hml]; rfl) (Steps.refl _) (a := b7) (argsL := [(.double (own_hf i10)), (.double (own_hf i12)), (.double (own_hf i11)), (.double (own_hf i13))]) (rest := [(.ref b7)]) (lenOf pd_0_1 rfl) rfl (by show 2 * 0 + _ ≤ _; exact Nat.le_of_eq rfl) (hb hby at_124) (fun _ _ => ⟨rfl, e7, (by show 0 + 1 + 30 ≤ 64; decide), (by show 0 + 4 + 640 ≤ 5888; decide)⟩)
  dsimp only [Pt.U, Pt.locs, Pt.cells, Pt.slots] at X8 S8 hz8 C8 l8 y8 z8 st8 hQ8
  subst l8 y8 z8
  obtain ⟨rfl, N8q, K8, B8⟩ := hQ8
  have N8 := Fr.app N0 N8q
  refine ⟨T8, T8.vm, _, b7, X8, S8, N8, K7.trans K8 (allS (Or.inr sz_b7) all0), B8, rfl, fun target kt => ?_⟩
  show Steps p.tables e below (T0.setTop (mkF m 92 #[s0, s1, s2, s3, s4, s5, s6, s7, s8, s9, .val (.int i10), .val (.int i11), .val (.int i12), .val (.int i13), s14, s15, s16, s17] [])) _
  refine st7 _ ?_
  show Steps p.tables e below (T7.setTop (mkF m 95 #[s0, s1, s2, s3, s4, s5, s6, s7, s8, s9, .val (.int i10), .val (.int i11), .val (.int i12), .val (.int i13), s14, s15, s16, s17] [(.ref b7)])) _
  refine XS.dup X7.here hx rfl (hb hby at_95) rfl rfl ?_
  show Steps p.tables e below (T7.setTop (mkF m 96 #[s0, s1, s2, s3, s4, s5, s6, s7, s8, s9, .val (.int i10), .val (.int i11), .val (.int i12), .val (.int i13), s14, s15, s16, s17] [(.ref b7), (.ref b7)])) _
  refine XS.iload X7.here hx rfl (hb hby at_96) rfl ?_
  show Steps p.tables e below (T7.setTop (mkF m 98 #[s0, s1, s2, s3, s4, s5, s6, s7, s8, s9, .val (.int i10), .val (.int i11), .val (.int i12), .val (.int i13), s14, s15, s16, s17] [(.int i10), (.ref b7), (.ref b7)])) _
  refine own_i2d X7.here hx rfl (hb hby at_98) rfl ?_
  show Steps p.tables e below (T7.setTop (mkF m 99 #[s0, s1, s2, s3, s4, s5, s6, s7, s8, s9, .val (.int i10), .val (.int i11), .val (.int i12), .val (.int i13), s14, s15, s16, s17] [(.double (FP.i2d i10)), (.ref b7), (.ref b7)])) _
  refine X7.ldc2DoubleC hx hown (mvT hZ (hw _ (List.mem_of_getElem? (i := 11) rfl))) (g := (mkF m 99 #[s0, s1, s2, s3, s4, s5, s6, s7, s8, s9, .val (.int i10), .val (.int i11), .val (.int i12), .val (.int i13), s14, s15, s16, s17] [(.double (FP.i2d i10)), (.ref b7), (.ref b7)])) rfl (hb hby at_99) _ ?_
  show Steps p.tables e below (T7.setTop (mkF m 102 #[s0, s1, s2, s3, s4, s5, s6, s7, s8, s9, .val (.int i10), .val (.int i11), .val (.int i12), .val (.int i13), s14, s15, s16, s17] [(.double (4611686018427387904 : UInt64)), (.double (FP.i2d i10)), (.ref b7), (.ref b7)])) _
  refine own_ddiv X7.here hx rfl (hb hby at_102) rfl (own_hnum i10 R1) ?_
  show Steps p.tables e below (T7.setTop (mkF m 103 #[s0, s1, s2, s3, s4, s5, s6, s7, s8, s9, .val (.int i10), .val (.int i11), .val (.int i12), .val (.int i13), s14, s15, s16, s17] [(.double (own_hf i10)), (.ref b7), (.ref b7)])) _
  refine XS.iload X7.here hx rfl (hb hby at_103) rfl ?_
  show Steps p.tables e below (T7.setTop (mkF m 105 #[s0, s1, s2, s3, s4, s5, s6, s7, s8, s9, .val (.int i10), .val (.int i11), .val (.int i12), .val (.int i13), s14, s15, s16, s17] [(.int i12), (.double (own_hf i10)), (.ref b7), (.ref b7)])) _
  refine own_i2d X7.here hx rfl (hb hby at_105) rfl ?_
  show Steps p.tables e below (T7.setTop (mkF m 106 #[s0, s1, s2, s3, s4, s5, s6, s7, s8, s9, .val (.int i10), .val (.int i11), .val (.int i12), .val (.int i13), s14, s15, s16, s17] [(.double (FP.i2d i12)), (.double (own_hf i10)), (.ref b7), (.ref b7)])) _
  refine X7.ldc2DoubleC hx hown (mvT hZ (hw _ (List.mem_of_getElem? (i := 11) rfl))) (g := (mkF m 106 #[s0, s1, s2, s3, s4, s5, s6, s7, s8, s9, .val (.int i10), .val (.int i11), .val (.int i12), .val (.int i13), s14, s15, s16, s17] [(.double (FP.i2d i12)), (.double (own_hf i10)), (.ref b7), (.ref b7)])) rfl (hb hby at_106) _ ?_
  show Steps p.tables e below (T7.setTop (mkF m 109 #[s0, s1, s2, s3, s4, s5, s6, s7, s8, s9, .val (.int i10), .val (.int i11), .val (.int i12), .val (.int i13), s14, s15, s16, s17] [(.double (4611686018427387904 : UInt64)), (.double (FP.i2d i12)), (.double (own_hf i10)), (.ref b7), (.ref b7)])) _
  refine own_ddiv X7.here hx rfl (hb hby at_109) rfl (own_hnum i12 R2) ?_
  show Steps p.tables e below (T7.setTop (mkF m 110 #[s0, s1, s2, s3, s4, s5, s6, s7, s8, s9, .val (.int i10), .val (.int i11), .val (.int i12), .val (.int i13), s14, s15, s16, s17] [(.double (own_hf i12)), (.double (own_hf i10)), (.ref b7), (.ref b7)])) _
  refine XS.iload X7.here hx rfl (hb hby at_110) rfl ?_
  show Steps p.tables e below (T7.setTop (mkF m 112 #[s0, s1, s2, s3, s4, s5, s6, s7, s8, s9, .val (.int i10), .val (.int i11), .val (.int i12), .val (.int i13), s14, s15, s16, s17] [(.int i11), (.double (own_hf i12)), (.double (own_hf i10)), (.ref b7), (.ref b7)])) _
  refine own_i2d X7.here hx rfl (hb hby at_112) rfl ?_
  show Steps p.tables e below (T7.setTop (mkF m 113 #[s0, s1, s2, s3, s4, s5, s6, s7, s8, s9, .val (.int i10), .val (.int i11), .val (.int i12), .val (.int i13), s14, s15, s16, s17] [(.double (FP.i2d i11)), (.double (own_hf i12)), (.double (own_hf i10)), (.ref b7), (.ref b7)])) _
  refine X7.ldc2DoubleC hx hown (mvT hZ (hw _ (List.mem_of_getElem? (i := 11) rfl))) (g := (mkF m 113 #[s0, s1, s2, s3, s4, s5, s6, s7, s8, s9, .val (.int i10), .val (.int i11), .val (.int i12), .val (.int i13), s14, s15, s16, s17] [(.double (FP.i2d i11)), (.double (own_hf i12)), (.double (own_hf i10)), (.ref b7), (.ref b7)])) rfl (hb hby at_113) _ ?_
  show Steps p.tables e below (T7.setTop (mkF m 116 #[s0, s1, s2, s3, s4, s5, s6, s7, s8, s9, .val (.int i10), .val (.int i11), .val (.int i12), .val (.int i13), s14, s15, s16, s17] [(.double (4611686018427387904 : UInt64)), (.double (FP.i2d i11)), (.double (own_hf i12)), (.double (own_hf i10)), (.ref b7), (.ref b7)])) _
  refine own_ddiv X7.here hx rfl (hb hby at_116) rfl (own_hnum i11 R3) ?_
  show Steps p.tables e below (T7.setTop (mkF m 117 #[s0, s1, s2, s3, s4, s5, s6, s7, s8, s9, .val (.int i10), .val (.int i11), .val (.int i12), .val (.int i13), s14, s15, s16, s17] [(.double (own_hf i11)), (.double (own_hf i12)), (.double (own_hf i10)), (.ref b7), (.ref b7)])) _
  refine XS.iload X7.here hx rfl (hb hby at_117) rfl ?_
  show Steps p.tables e below (T7.setTop (mkF m 119 #[s0, s1, s2, s3, s4, s5, s6, s7, s8, s9, .val (.int i10), .val (.int i11), .val (.int i12), .val (.int i13), s14, s15, s16, s17] [(.int i13), (.double (own_hf i11)), (.double (own_hf i12)), (.double (own_hf i10)), (.ref b7), (.ref b7)])) _
  refine own_i2d X7.here hx rfl (hb hby at_119) rfl ?_
  show Steps p.tables e below (T7.setTop (mkF m 120 #[s0, s1, s2, s3, s4, s5, s6, s7, s8, s9, .val (.int i10), .val (.int i11), .val (.int i12), .val (.int i13), s14, s15, s16, s17] [(.double (FP.i2d i13)), (.double (own_hf i11)), (.double (own_hf i12)), (.double (own_hf i10)), (.ref b7), (.ref b7)])) _
  refine X7.ldc2DoubleC hx hown (mvT hZ (hw _ (List.mem_of_getElem? (i := 11) rfl))) (g := (mkF m 120 #[s0, s1, s2, s3, s4, s5, s6, s7, s8, s9, .val (.int i10), .val (.int i11), .val (.int i12), .val (.int i13), s14, s15, s16, s17] [(.double (FP.i2d i13)), (.double (own_hf i11)), (.double (own_hf i12)), (.double (own_hf i10)), (.ref b7), (.ref b7)])) rfl (hb hby at_120) _ ?_
  show Steps p.tables e below (T7.setTop (mkF m 123 #[s0, s1, s2, s3, s4, s5, s6, s7, s8, s9, .val (.int i10), .val (.int i11), .val (.int i12), .val (.int i13), s14, s15, s16, s17] [(.double (4611686018427387904 : UInt64)), (.double (FP.i2d i13)), (.double (own_hf i11)), (.double (own_hf i12)), (.double (own_hf i10)), (.ref b7), (.ref b7)])) _
  refine own_ddiv X7.here hx rfl (hb hby at_123) rfl (own_hnum i13 R4) ?_
  show Steps p.tables e below (T7.setTop (mkF m 124 #[s0, s1, s2, s3, s4, s5, s6, s7, s8, s9, .val (.int i10), .val (.int i11), .val (.int i12), .val (.int i13), s14, s15, s16, s17] [(.double (own_hf i13)), (.double (own_hf i11)), (.double (own_hf i12)), (.double (own_hf i10)), (.ref b7), (.ref b7)])) _
  refine st8.trans ?_
  show Steps p.tables e below (T8.setTop (mkF m 127 #[s0, s1, s2, s3, s4, s5, s6, s7, s8, s9, .val (.int i10), .val (.int i11), .val (.int i12), .val (.int i13), s14, s15, s16, s17] [(.ref b7)])) _
  refine XS.astore X8.here hx rfl (hb hby at_127) rfl rfl (l' := #[s0, s1, s2, s3, s4, s5, s6, s7, s8, s9, .val (.int i10), .val (.int i11), .val (.int i12), .val (.int i13), .val (.ref b7), s15, s16, s17]) (os0_127_B hs14) ?_
  exact kt
theorem pd_0_24 : parseMethodDescriptor "(DD)Z" = some ⟨[.double, .double], some .boolean⟩ := by decide +kernel
set_option maxRecDepth 65536 in
set_option maxHeartbeats 40000000 in
theorem own_Dc {p : Program} {l : Launch} {e : Env} {s : State} {m : MethodId} {args : Array Value} {below : List Frame} {meth : Method} {c : Code} {T0 : State} {locs : List Loc} {cells slots : Nat} {Z : State} {a0 : Array Value} {h0 : Heap} (s0 : Slot) (s1 : Slot) (s2 : Slot) (s3 : Slot) (s4 : Slot) (s5 : Slot) (s6 : Slot) (s7 : Slot) (s8 : Slot) (s9 : Slot) (s10 : Slot) (s11 : Slot) (s12 : Slot) (s13 : Slot) (o14 : Addr) (i15 : Int32) (i16 : Int32) (i17 : Int32) (y1 y2 y3 y4 : Int32) (n0 : Nat)
    (X0 : Stand p l e room_1 s m args below meth c T0 locs cells slots) (hx : p.tables.exec = Jvm.exec) (hZ : Z.Warmed39 s.vm) (hw : ∀ d ∈ tables_1, d.before a0 Z = true) (hby : c.code = code) (hml : c.maxLocals = 18) (hown : s.vm.findClass "com/example/tidegrid/tidegrid/BoxContainsPinLaw" = some m.cls) (e0 : T0.heap = h0) (HB : own_Bx Z h0 o14 (own_hf y1) (own_hf y3) (own_hf y2) (own_hf y4)) (Rp : own_Rg i15) (Rq : own_Rg i16) (Ry1 : own_Rg y1) (Ry2 : own_Rg y2) (Ry3 : own_Rg y3) (Ry4 : own_Rg y4) (Z0 : n0 ≤ h0.size) (N0 : Fr n0 locs) (hcl : cells ≤ room_1.cells) (hsl : slots ≤ room_1.slots) (hk0 : (own_b (own_in i15 i16 y1 y2 y3 y4)) = i17) :
    ∃ (T' : State) (locs' : List Loc), Stand p l e room_1 s m args below meth c T' locs' cells slots ∧ Fr n0 locs' ∧ T'.heap = h0 ∧
      ∀ target, Steps p.tables e below (T'.setTop (mkF m 204 #[s0, s1, s2, s3, s4, s5, s6, s7, s8, s9, s10, s11, s12, s13, .val (.ref o14), .val (.int i15), .val (.int i16), .val (.int i17)] [])) target → Steps p.tables e below (T0.setTop (mkF m 180 #[s0, s1, s2, s3, s4, s5, s6, s7, s8, s9, s10, s11, s12, s13, .val (.ref o14), .val (.int i15), .val (.int i16), .val (.int i17)] [])) target := by
  obtain ⟨cq7, kq7, q7a, q7b, q7c⟩ := isOf hZ e0 HB.1
  obtain ⟨_, _, ⟨T7, L7, k7, n7⟩, -, X7, ⟨Lc7, hQ7, l7, y7, z7⟩, st7⟩ := X0.virtualBack hx (y := (⟨"com/example/tidegrid/tidegrid/Box", "contains", "(DD)Z"⟩ : MethodName)) (z := (⟨"com/example/tidegrid/tidegrid/Box", "contains", "(DD)Z"⟩ : MethodName)) hown (mvT hZ (hw _ (List.mem_of_getElem? (i := 184) rfl))) (mvT hZ (hw _ (List.mem_of_getElem? (i := 185) rfl))) (notFace_of_selects (args := #[]) (mvT hZ (hw _ (List.mem_of_getElem? (i := 187) rfl)))) (mvT hZ (hw _ (List.mem_of_getElem? (i := 187) rfl))) (mvT hZ (hw _ (List.mem_of_getElem? (i := 186) rfl))) (by decide) (backOf (W := 0) (r32w l Z a0 hw [] o14 (FP.ddiv (FP.i2d i15) (4611686018427387904 : UInt64)) (FP.ddiv (FP.i2d i16) (4611686018427387904 : UInt64)) i15 i16 y1 y2 y3 y4 h0 n0 Z0 rfl rfl HB.2.1 HB.2.2.2.1 HB.2.2.1 HB.2.2.2.2 Rp Rq Ry1 Ry2 Ry3 Ry4) hZ (hw _ (List.mem_of_getElem? (i := 188) rfl)) (hw _ (List.mem_of_getElem? (i := 10) rfl)) (by decide) (by decide)) q7a q7c (g := (mkF m 196 #[s0, s1, s2, s3, s4, s5, s6, s7, s8, s9, s10, s11, s12, s13, .val (.ref o14), .val (.int i15), .val (.int i16), .val (.int i17)] [(.double (FP.ddiv (FP.i2d i16) (4611686018427387904 : UInt64))), (.double (FP.ddiv (FP.i2d i15) (4611686018427387904 : UInt64))), (.ref o14)])) rfl (by rw [hml]; rfl) (Steps.refl _) (argsL := [(.double (FP.ddiv (FP.i2d i15) (4611686018427387904 : UInt64))), (.double (FP.ddiv (FP.i2d i16) (4611686018427387904 : UInt64)))]) (rest := []) (lenOf pd_0_24 rfl) rfl (by show 2 * 0 + _ ≤ _; exact Nat.le_of_eq rfl) (hb hby at_196) (fun _ _ => ⟨rfl, e0, hcl, hsl⟩)
  dsimp only [Pt.U, Pt.locs, Pt.cells, Pt.slots] at X7 l7 y7 z7 st7 hQ7
  subst l7 y7 z7
  obtain ⟨rfl, N7q, e7⟩ := hQ7
  have N7 := Fr.app N0 N7q
  refine ⟨T7, _, X7, N7, e7, fun target kt => ?_⟩
  show Steps p.tables e below (T0.setTop (mkF m 180 #[s0, s1, s2, s3, s4, s5, s6, s7, s8, s9, s10, s11, s12, s13, .val (.ref o14), .val (.int i15), .val (.int i16), .val (.int i17)] [])) _
  refine XS.aload X0.here hx rfl (hb hby at_180) rfl rfl ?_
  show Steps p.tables e below (T0.setTop (mkF m 182 #[s0, s1, s2, s3, s4, s5, s6, s7, s8, s9, s10, s11, s12, s13, .val (.ref o14), .val (.int i15), .val (.int i16), .val (.int i17)] [(.ref o14)])) _
  refine XS.iload X0.here hx rfl (hb hby at_182) rfl ?_
  show Steps p.tables e below (T0.setTop (mkF m 184 #[s0, s1, s2, s3, s4, s5, s6, s7, s8, s9, s10, s11, s12, s13, .val (.ref o14), .val (.int i15), .val (.int i16), .val (.int i17)] [(.int i15), (.ref o14)])) _
  refine own_i2d X0.here hx rfl (hb hby at_184) rfl ?_
  show Steps p.tables e below (T0.setTop (mkF m 185 #[s0, s1, s2, s3, s4, s5, s6, s7, s8, s9, s10, s11, s12, s13, .val (.ref o14), .val (.int i15), .val (.int i16), .val (.int i17)] [(.double (FP.i2d i15)), (.ref o14)])) _
  refine X0.ldc2DoubleC hx hown (mvT hZ (hw _ (List.mem_of_getElem? (i := 11) rfl))) (g := (mkF m 185 #[s0, s1, s2, s3, s4, s5, s6, s7, s8, s9, s10, s11, s12, s13, .val (.ref o14), .val (.int i15), .val (.int i16), .val (.int i17)] [(.double (FP.i2d i15)), (.ref o14)])) rfl (hb hby at_185) _ ?_
  show Steps p.tables e below (T0.setTop (mkF m 188 #[s0, s1, s2, s3, s4, s5, s6, s7, s8, s9, s10, s11, s12, s13, .val (.ref o14), .val (.int i15), .val (.int i16), .val (.int i17)] [(.double (4611686018427387904 : UInt64)), (.double (FP.i2d i15)), (.ref o14)])) _
  refine own_ddiv X0.here hx rfl (hb hby at_188) rfl (own_hnum i15 Rp) ?_
  show Steps p.tables e below (T0.setTop (mkF m 189 #[s0, s1, s2, s3, s4, s5, s6, s7, s8, s9, s10, s11, s12, s13, .val (.ref o14), .val (.int i15), .val (.int i16), .val (.int i17)] [(.double (FP.ddiv (FP.i2d i15) (4611686018427387904 : UInt64))), (.ref o14)])) _
  refine XS.iload X0.here hx rfl (hb hby at_189) rfl ?_
  show Steps p.tables e below (T0.setTop (mkF m 191 #[s0, s1, s2, s3, s4, s5, s6, s7, s8, s9, s10, s11, s12, s13, .val (.ref o14), .val (.int i15), .val (.int i16), .val (.int i17)] [(.int i16), (.double (FP.ddiv (FP.i2d i15) (4611686018427387904 : UInt64))), (.ref o14)])) _
  refine own_i2d X0.here hx rfl (hb hby at_191) rfl ?_
  show Steps p.tables e below (T0.setTop (mkF m 192 #[s0, s1, s2, s3, s4, s5, s6, s7, s8, s9, s10, s11, s12, s13, .val (.ref o14), .val (.int i15), .val (.int i16), .val (.int i17)] [(.double (FP.i2d i16)), (.double (FP.ddiv (FP.i2d i15) (4611686018427387904 : UInt64))), (.ref o14)])) _
  refine X0.ldc2DoubleC hx hown (mvT hZ (hw _ (List.mem_of_getElem? (i := 11) rfl))) (g := (mkF m 192 #[s0, s1, s2, s3, s4, s5, s6, s7, s8, s9, s10, s11, s12, s13, .val (.ref o14), .val (.int i15), .val (.int i16), .val (.int i17)] [(.double (FP.i2d i16)), (.double (FP.ddiv (FP.i2d i15) (4611686018427387904 : UInt64))), (.ref o14)])) rfl (hb hby at_192) _ ?_
  show Steps p.tables e below (T0.setTop (mkF m 195 #[s0, s1, s2, s3, s4, s5, s6, s7, s8, s9, s10, s11, s12, s13, .val (.ref o14), .val (.int i15), .val (.int i16), .val (.int i17)] [(.double (4611686018427387904 : UInt64)), (.double (FP.i2d i16)), (.double (FP.ddiv (FP.i2d i15) (4611686018427387904 : UInt64))), (.ref o14)])) _
  refine own_ddiv X0.here hx rfl (hb hby at_195) rfl (own_hnum i16 Rq) ?_
  show Steps p.tables e below (T0.setTop (mkF m 196 #[s0, s1, s2, s3, s4, s5, s6, s7, s8, s9, s10, s11, s12, s13, .val (.ref o14), .val (.int i15), .val (.int i16), .val (.int i17)] [(.double (FP.ddiv (FP.i2d i16) (4611686018427387904 : UInt64))), (.double (FP.ddiv (FP.i2d i15) (4611686018427387904 : UInt64))), (.ref o14)])) _
  refine st7.trans ?_
  show Steps p.tables e below (T7.setTop (mkF m 199 #[s0, s1, s2, s3, s4, s5, s6, s7, s8, s9, s10, s11, s12, s13, .val (.ref o14), .val (.int i15), .val (.int i16), .val (.int i17)] [(.int (own_b (own_in i15 i16 y1 y2 y3 y4)))])) _
  refine XS.iload X7.here hx rfl (hb hby at_199) rfl ?_
  show Steps p.tables e below (T7.setTop (mkF m 201 #[s0, s1, s2, s3, s4, s5, s6, s7, s8, s9, s10, s11, s12, s13, .val (.ref o14), .val (.int i15), .val (.int i16), .val (.int i17)] [(.int i17), (.int (own_b (own_in i15 i16 y1 y2 y3 y4)))])) _
  refine XS.icmpNo X7.here hx rfl (hb hby at_201) rfl (teq (hk0 : (own_b (own_in i15 i16 y1 y2 y3 y4)) = i17)).2 ?_
  exact kt
def Q0 (h0 : Heap) (n0 : Nat) (v : Option Value) (h : Heap) (L : List Loc) : Prop := v = some (.int (1 : Int32)) ∧ Fr n0 L
theorem own_la (x : Int32) (M h : Int32) (k : Int) (hM : M.toInt = 2 * k + 1) (hh : h.toInt = k) (hk : 0 < k ∧ k < 1000) : -k ≤ ((x &&& (2147483647 : Int32)) % M - h).toInt ∧ ((x &&& (2147483647 : Int32)) % M - h).toInt ≤ k := by
  have h1 := c_and x 2147483647 (by decide)
  have h2 := (c_iremV (x &&& (2147483647 : Int32)) M).1 h1.1 (by omega)
  have h3 := c_isub ((x &&& (2147483647 : Int32)) % M) h
  have h4 := ((x &&& (2147483647 : Int32)) % M - h).toInt_lt
  have h5 := ((x &&& (2147483647 : Int32)) % M - h).le_toInt
  omega
theorem own_pq (x M : Int32) (k : Int) (hM : M.toInt = k) (hk : 0 < k) : -k < (x % M).toInt ∧ (x % M).toInt < k := by
  rw [Int32.toInt_mod, hM]
  exact ⟨Int.lt_tmod_of_pos _ hk, Int.tmod_lt_of_pos _ hk⟩
theorem own_mm (x y : Int32) (k : Int) (hx : -k ≤ x.toInt ∧ x.toInt ≤ k) (hy : -k ≤ y.toInt ∧ y.toInt ≤ k) : (-k ≤ (own_min x y).toInt ∧ (own_min x y).toInt ≤ k) ∧ (-k ≤ (own_max x y).toInt ∧ (own_max x y).toInt ≤ k) ∧ ¬ own_max x y < own_min x y := by
  unfold own_min own_max
  by_cases h1 : y < x
  · have h2 : ¬ x < y := fun q => Int32.lt_irrefl (Int32.lt_trans h1 q)
    rw [if_pos h1, if_neg h2]
    exact ⟨hy, hx, h2⟩
  · rw [if_neg h1]
    by_cases h2 : x < y
    · rw [if_pos h2]; exact ⟨hx, hy, h1⟩
    · rw [if_neg h2]; exact ⟨hx, hx, Int32.lt_irrefl⟩
theorem own_bnds (x : Int32) (c d : Int32) (k : Int) (hx : -k ≤ x.toInt ∧ x.toInt ≤ k) (hc : c.toInt = -k) (hd : d.toInt = k) (hk : k ≤ 721) : own_Rg x ∧ ¬ x < c ∧ ¬ d < x := by
  refine ⟨⟨by omega, by omega⟩, fun q => ?_, fun q => ?_⟩ <;> rw [Int32.lt_iff_toInt_lt] at q <;> omega
theorem pn_0 : plainName "com/example/tidegrid/tidegrid/BoxContainsPinLaw" = true := by first | (simp [plainName, overriddenIn]; done) | decide +kernel
theorem ef_0 (m : MethodId) (x0 : Int32) (x1 : Int32) (x2 : Int32) (x3 : Int32) (x4 : Int32) (x5 : Int32) : entryFrame m #[(.int x0), (.int x1), (.int x2), (.int x3), (.int x4), (.int x5)] maxLocals = mkF m 0 #[.val (.int x0), .val (.int x1), .val (.int x2), .val (.int x3), .val (.int x4), .val (.int x5), .unset, .unset, .unset, .unset, .unset, .unset, .unset, .unset, .unset, .unset, .unset, .unset] [] := by first | (simp [entryFrame, mkF, argsToLocals, Value.category, maxLocals]; done) | rfl
set_option maxRecDepth 65536 in
set_option maxHeartbeats 40000000 in
theorem rm0 (l : Launch) (Z : State) (a0 : Array Value) (hw : ∀ d ∈ tables_1, d.before a0 Z = true) (hwS : ∀ d ∈ Bundle.stringAtoms, d.before a0 Z = true) (hEL : EW Z a0 own_EL) (ws : List Jvm.Cond) (p1 : Int32) (p2 : Int32) (p3 : Int32) (p4 : Int32) (p5 : Int32) (p6 : Int32) (h0 : Heap) (n0 : Nat) (Z0 : n0 ≤ h0.size) (O : Old Z n0 h0) (CS : own_CS Z Z.heap) :
    MetFree l x (head1 (Jvm.Cond.code x code maxLocals ret :: ws) room_1) (fun a U => a = #[(.int p1), (.int p2), (.int p3), (.int p4), (.int p5), (.int p6)] ∧ Z.Warmed39 U.vm ∧ U.heap = h0 ∧ CHv Z own_EL U.vm h0) (fun _ _ _ _ _ => True) (fun _ U o U' => ∃ v L, o = .returned v ∧ Q0 h0 n0 v U'.heap L ∧ ReturnedEndW U o U' L room_1.cells room_1.slots) := by
  refine MetFree.of_bodySF (plainFor_of_name pn_0) hisR ?_
  intro p e s m args below meth c s₁ Bd hml0 hP hK
  obtain ⟨rfl, hZ, hh, hC⟩ := hP
  have hx := Bd.exec
  have hby := Bd.bytes
  have hml : c.maxLocals = 18 := hml0
  have hown : s.vm.findClass "com/example/tidegrid/tidegrid/BoxContainsPinLaw" = some m.cls := findClass_of_methodNamed Bd.named
  have hnm := (name_of_methodNamed Bd.named Bd.method).1
  have X0 : Stand p l e room_1 s m #[(.int p1), (.int p2), (.int p3), (.int p4), (.int p5), (.int p6)] below meth c s₁ [] 0 0 := Stand.of_body Bd
  have e0 : s₁.heap = h0 := by rw [← hh, Bd.state]; rfl
  have N0 := Fr.nil n0
  have pre0 : ∀ t, Steps p.tables e below (s₁.setTop (mkF m 0 #[.val (.int p1), .val (.int p2), .val (.int p3), .val (.int p4), .val (.int p5), .val (.int p6), .unset, .unset, .unset, .unset, .unset, .unset, .unset, .unset, .unset, .unset, .unset, .unset] [])) t → Steps p.tables e below (s₁.setTop (entryFrame m #[(.int p1), (.int p2), (.int p3), (.int p4), (.int p5), (.int p6)] maxLocals)) t := fun t k => castTop (ef_0 m p1 p2 p3 p4 p5 p6) k
  obtain ⟨T1, L1, X1, N1, e1, st1⟩ := own_A p1 p2 p3 p4 (.val (.int p5)) (.val (.int p6)) .unset .unset .unset .unset .unset .unset .unset .unset .unset .unset .unset .unset n0 X0 hx hZ hw hby hml hown e0 Z0 N0 (by decide) (by decide) One.u One.u One.u One.u One.u One.u One.u One.u (by decide) (by decide) (by decide) (by decide)
  have a1_ := own_la p1 361 180 180 (by decide) (by decide) (by decide)
  have a2_ := own_la p2 361 180 180 (by decide) (by decide) (by decide)
  have a3_ := own_la p3 721 360 360 (by decide) (by decide) (by decide)
  have a4_ := own_la p4 721 360 360 (by decide) (by decide) (by decide)
  obtain ⟨m1, m2, m3⟩ := own_mm _ _ 180 a1_ a2_
  obtain ⟨m4, m5, m6⟩ := own_mm _ _ 360 a3_ a4_
  obtain ⟨y1, hy1⟩ : ∃ y, y = own_min ((HMod.hMod (p1 &&& (2147483647 : Int32)) (361 : Int32)) - (180 : Int32)) ((HMod.hMod (p2 &&& (2147483647 : Int32)) (361 : Int32)) - (180 : Int32)) := ⟨_, rfl⟩
  obtain ⟨y2, hy2⟩ : ∃ y, y = own_max ((HMod.hMod (p1 &&& (2147483647 : Int32)) (361 : Int32)) - (180 : Int32)) ((HMod.hMod (p2 &&& (2147483647 : Int32)) (361 : Int32)) - (180 : Int32)) := ⟨_, rfl⟩
  obtain ⟨y3, hy3⟩ : ∃ y, y = own_min ((HMod.hMod (p3 &&& (2147483647 : Int32)) (721 : Int32)) - (360 : Int32)) ((HMod.hMod (p4 &&& (2147483647 : Int32)) (721 : Int32)) - (360 : Int32)) := ⟨_, rfl⟩
  obtain ⟨y4, hy4⟩ : ∃ y, y = own_max ((HMod.hMod (p3 &&& (2147483647 : Int32)) (721 : Int32)) - (360 : Int32)) ((HMod.hMod (p4 &&& (2147483647 : Int32)) (721 : Int32)) - (360 : Int32)) := ⟨_, rfl⟩
  rw [← hy1] at st1 m1
  rw [← hy2] at st1 m2
  rw [← hy3] at st1 m4
  rw [← hy4] at st1 m5
  rw [← hy1, ← hy2] at m3
  rw [← hy3, ← hy4] at m6
  obtain ⟨R1, l1, u1⟩ := own_bnds y1 (-180) 180 180 m1 (by decide) (by decide) (by decide)
  obtain ⟨R2, l2, u2⟩ := own_bnds y2 (-180) 180 180 m2 (by decide) (by decide) (by decide)
  obtain ⟨R3, l3, u3⟩ := own_bnds y3 (-360) 360 360 m4 (by decide) (by decide) (by decide)
  obtain ⟨R4, l4, u4⟩ := own_bnds y4 (-360) 360 360 m5 (by decide) (by decide) (by decide)
  obtain ⟨T2, vm2, L2, b14, X2, S2, N2, K2, B2, ev2, st2⟩ := own_Bb (.val (.int p1)) (.val (.int p2)) (.val (.int p3)) (.val (.int p4)) (.val (.int p5)) (.val (.int p6)) (.val (.int ((HMod.hMod (p1 &&& (2147483647 : Int32)) (361 : Int32)) - (180 : Int32)))) (.val (.int ((HMod.hMod (p2 &&& (2147483647 : Int32)) (361 : Int32)) - (180 : Int32)))) (.val (.int ((HMod.hMod (p3 &&& (2147483647 : Int32)) (721 : Int32)) - (360 : Int32)))) (.val (.int ((HMod.hMod (p4 &&& (2147483647 : Int32)) (721 : Int32)) - (360 : Int32)))) y1 y2 y3 y4 .unset .unset .unset .unset n0 X1 hx hZ hw hby hml hown e1 hwS hEL hC Z0 N1 CS O R1 R3 R2 R4 l1 l3 l2 l4 u1 u3 u2 u4 m3 m6 One.u
  have hZ2 : Z.Warmed39 (s.setVm vm2).vm := State.Warmed39.trans hZ S2.1
  have hown2 : (s.setVm vm2).vm.findClass "com/example/tidegrid/tidegrid/BoxContainsPinLaw" = some m.cls := by show vm2.findClass _ = _; rw [S2.1.alike.findClass]; exact hown
  have Z2 := Nat.le_trans Z0 K2.1
  obtain ⟨T3, X3, e3, st3⟩ := own_C1 (.val (.int p1)) (.val (.int p2)) (.val (.int p3)) (.val (.int p4)) p5 p6 (.val (.int ((HMod.hMod (p1 &&& (2147483647 : Int32)) (361 : Int32)) - (180 : Int32)))) (.val (.int ((HMod.hMod (p2 &&& (2147483647 : Int32)) (361 : Int32)) - (180 : Int32)))) (.val (.int ((HMod.hMod (p3 &&& (2147483647 : Int32)) (721 : Int32)) - (360 : Int32)))) (.val (.int ((HMod.hMod (p4 &&& (2147483647 : Int32)) (721 : Int32)) - (360 : Int32)))) (.val (.int y1)) (.val (.int y2)) (.val (.int y3)) (.val (.int y4)) (.val (.ref b14)) .unset .unset .unset X2 hx hZ2 hw hby hml hown2 rfl One.u One.u (by decide) (by decide)
  obtain ⟨pp, hpp⟩ : ∃ y, y = HMod.hMod p5 (401 : Int32) := ⟨_, rfl⟩
  obtain ⟨qq, hqq⟩ : ∃ y, y = HMod.hMod p6 (721 : Int32) := ⟨_, rfl⟩
  have b1 := own_pq p5 401 401 (by decide) (by decide)
  have b2 := own_pq p6 721 721 (by decide) (by decide)
  rw [← hpp] at st3 b1
  rw [← hqq] at st3 b2
  have Rp : own_Rg pp := ⟨by omega, by omega⟩
  have Rq : own_Rg qq := ⟨by omega, by omega⟩
  have hE : ∃ T4 : State, Stand p l e room_1 (s.setVm vm2) m #[(.int p1), (.int p2), (.int p3), (.int p4), (.int p5), (.int p6)] below meth c T4 L2 31 644 ∧ T4.heap = T2.heap ∧ ∀ target, Steps p.tables e below (T4.setTop (mkF m 180 #[.val (.int p1), .val (.int p2), .val (.int p3), .val (.int p4), .val (.int p5), .val (.int p6), .val (.int ((HMod.hMod (p1 &&& (2147483647 : Int32)) (361 : Int32)) - (180 : Int32))), .val (.int ((HMod.hMod (p2 &&& (2147483647 : Int32)) (361 : Int32)) - (180 : Int32))), .val (.int ((HMod.hMod (p3 &&& (2147483647 : Int32)) (721 : Int32)) - (360 : Int32))), .val (.int ((HMod.hMod (p4 &&& (2147483647 : Int32)) (721 : Int32)) - (360 : Int32))), .val (.int y1), .val (.int y2), .val (.int y3), .val (.int y4), .val (.ref b14), .val (.int pp), .val (.int qq), .val (.int (own_b (own_in pp qq y1 y2 y3 y4)))] [])) target → Steps p.tables e below (T3.setTop (mkF m 145 #[.val (.int p1), .val (.int p2), .val (.int p3), .val (.int p4), .val (.int p5), .val (.int p6), .val (.int ((HMod.hMod (p1 &&& (2147483647 : Int32)) (361 : Int32)) - (180 : Int32))), .val (.int ((HMod.hMod (p2 &&& (2147483647 : Int32)) (361 : Int32)) - (180 : Int32))), .val (.int ((HMod.hMod (p3 &&& (2147483647 : Int32)) (721 : Int32)) - (360 : Int32))), .val (.int ((HMod.hMod (p4 &&& (2147483647 : Int32)) (721 : Int32)) - (360 : Int32))), .val (.int y1), .val (.int y2), .val (.int y3), .val (.int y4), .val (.ref b14), .val (.int pp), .val (.int qq), .unset] [])) target := by
    by_cases g0 : pp < y1
    · obtain ⟨T4, X4, e4, st4⟩ := own_Ca (.val (.int p1)) (.val (.int p2)) (.val (.int p3)) (.val (.int p4)) (.val (.int p5)) (.val (.int p6)) (.val (.int ((HMod.hMod (p1 &&& (2147483647 : Int32)) (361 : Int32)) - (180 : Int32)))) (.val (.int ((HMod.hMod (p2 &&& (2147483647 : Int32)) (361 : Int32)) - (180 : Int32)))) (.val (.int ((HMod.hMod (p3 &&& (2147483647 : Int32)) (721 : Int32)) - (360 : Int32)))) (.val (.int ((HMod.hMod (p4 &&& (2147483647 : Int32)) (721 : Int32)) - (360 : Int32)))) y1 (.val (.int y2)) (.val (.int y3)) (.val (.int y4)) (.val (.ref b14)) pp (.val (.int qq)) .unset X3 hx hZ2 hw hby hml hown2 e3 One.u g0
      exact ⟨T4, X4, e4, by rw [show own_in pp qq y1 y2 y3 y4 = false from decide_eq_false (fun q => q.1 g0)]; exact st4⟩
    by_cases g1 : y2 < pp
    · obtain ⟨T4, X4, e4, st4⟩ := own_Cb (.val (.int p1)) (.val (.int p2)) (.val (.int p3)) (.val (.int p4)) (.val (.int p5)) (.val (.int p6)) (.val (.int ((HMod.hMod (p1 &&& (2147483647 : Int32)) (361 : Int32)) - (180 : Int32)))) (.val (.int ((HMod.hMod (p2 &&& (2147483647 : Int32)) (361 : Int32)) - (180 : Int32)))) (.val (.int ((HMod.hMod (p3 &&& (2147483647 : Int32)) (721 : Int32)) - (360 : Int32)))) (.val (.int ((HMod.hMod (p4 &&& (2147483647 : Int32)) (721 : Int32)) - (360 : Int32)))) y1 y2 (.val (.int y3)) (.val (.int y4)) (.val (.ref b14)) pp (.val (.int qq)) .unset X3 hx hZ2 hw hby hml hown2 e3 One.u g0 g1
      exact ⟨T4, X4, e4, by rw [show own_in pp qq y1 y2 y3 y4 = false from decide_eq_false (fun q => q.2.1 g1)]; exact st4⟩
    by_cases g2 : qq < y3
    · obtain ⟨T4, X4, e4, st4⟩ := own_Cc (.val (.int p1)) (.val (.int p2)) (.val (.int p3)) (.val (.int p4)) (.val (.int p5)) (.val (.int p6)) (.val (.int ((HMod.hMod (p1 &&& (2147483647 : Int32)) (361 : Int32)) - (180 : Int32)))) (.val (.int ((HMod.hMod (p2 &&& (2147483647 : Int32)) (361 : Int32)) - (180 : Int32)))) (.val (.int ((HMod.hMod (p3 &&& (2147483647 : Int32)) (721 : Int32)) - (360 : Int32)))) (.val (.int ((HMod.hMod (p4 &&& (2147483647 : Int32)) (721 : Int32)) - (360 : Int32)))) y1 y2 y3 (.val (.int y4)) (.val (.ref b14)) pp qq .unset X3 hx hZ2 hw hby hml hown2 e3 One.u g0 g1 g2
      exact ⟨T4, X4, e4, by rw [show own_in pp qq y1 y2 y3 y4 = false from decide_eq_false (fun q => q.2.2.1 g2)]; exact st4⟩
    by_cases g3 : y4 < qq
    · obtain ⟨T4, X4, e4, st4⟩ := own_Cd (.val (.int p1)) (.val (.int p2)) (.val (.int p3)) (.val (.int p4)) (.val (.int p5)) (.val (.int p6)) (.val (.int ((HMod.hMod (p1 &&& (2147483647 : Int32)) (361 : Int32)) - (180 : Int32)))) (.val (.int ((HMod.hMod (p2 &&& (2147483647 : Int32)) (361 : Int32)) - (180 : Int32)))) (.val (.int ((HMod.hMod (p3 &&& (2147483647 : Int32)) (721 : Int32)) - (360 : Int32)))) (.val (.int ((HMod.hMod (p4 &&& (2147483647 : Int32)) (721 : Int32)) - (360 : Int32)))) y1 y2 y3 y4 (.val (.ref b14)) pp qq .unset X3 hx hZ2 hw hby hml hown2 e3 One.u g0 g1 g2 g3
      exact ⟨T4, X4, e4, by rw [show own_in pp qq y1 y2 y3 y4 = false from decide_eq_false (fun q => q.2.2.2 g3)]; exact st4⟩
    obtain ⟨T4, X4, e4, st4⟩ := own_Ce (.val (.int p1)) (.val (.int p2)) (.val (.int p3)) (.val (.int p4)) (.val (.int p5)) (.val (.int p6)) (.val (.int ((HMod.hMod (p1 &&& (2147483647 : Int32)) (361 : Int32)) - (180 : Int32)))) (.val (.int ((HMod.hMod (p2 &&& (2147483647 : Int32)) (361 : Int32)) - (180 : Int32)))) (.val (.int ((HMod.hMod (p3 &&& (2147483647 : Int32)) (721 : Int32)) - (360 : Int32)))) (.val (.int ((HMod.hMod (p4 &&& (2147483647 : Int32)) (721 : Int32)) - (360 : Int32)))) y1 y2 y3 y4 (.val (.ref b14)) pp qq .unset X3 hx hZ2 hw hby hml hown2 e3 One.u g0 g1 g2 g3
    exact ⟨T4, X4, e4, by rw [show own_in pp qq y1 y2 y3 y4 = true from decide_eq_true ⟨g0, g1, g2, g3⟩]; exact st4⟩
  obtain ⟨T4, X4, e4, st4⟩ := hE
  obtain ⟨T5, L5, X5, N5, e5, st5⟩ := own_Dc (.val (.int p1)) (.val (.int p2)) (.val (.int p3)) (.val (.int p4)) (.val (.int p5)) (.val (.int p6)) (.val (.int ((HMod.hMod (p1 &&& (2147483647 : Int32)) (361 : Int32)) - (180 : Int32)))) (.val (.int ((HMod.hMod (p2 &&& (2147483647 : Int32)) (361 : Int32)) - (180 : Int32)))) (.val (.int ((HMod.hMod (p3 &&& (2147483647 : Int32)) (721 : Int32)) - (360 : Int32)))) (.val (.int ((HMod.hMod (p4 &&& (2147483647 : Int32)) (721 : Int32)) - (360 : Int32)))) (.val (.int y1)) (.val (.int y2)) (.val (.int y3)) (.val (.int y4)) b14 pp qq (own_b (own_in pp qq y1 y2 y3 y4)) y1 y2 y3 y4 n0 X4 hx hZ2 hw hby hml hown2 e4 B2 Rp Rq R1 R2 R3 R4 Z2 N2 (by decide) (by decide) rfl
  obtain ⟨fs, hr, hrun, hended, hRW⟩ := X5.leaveW (s := s) S2 (Nat.le_of_eq (by rw [e5])) (v := some (.int (1 : Int32))) (fun h => by rw [Bd.returns] at h; cases h)
  refine ⟨_, _, pre0 _ ?_, hrun, hended, _, _, rfl, ?_, ⟨hRW.1, hRW.2.1, hRW.2.2.1, hRW.2.2.2.mono (by decide) (by decide)⟩⟩
  · refine st1 _ (st2 _ (st3 _ (st4 _ (st5 _ ?_))))
    refine XS.iconst X5.here hx rfl (hb hby at_204) ?_
    show Steps p.tables e below (T5.setTop (mkF m 205 #[.val (.int p1), .val (.int p2), .val (.int p3), .val (.int p4), .val (.int p5), .val (.int p6), .val (.int ((HMod.hMod (p1 &&& (2147483647 : Int32)) (361 : Int32)) - (180 : Int32))), .val (.int ((HMod.hMod (p2 &&& (2147483647 : Int32)) (361 : Int32)) - (180 : Int32))), .val (.int ((HMod.hMod (p3 &&& (2147483647 : Int32)) (721 : Int32)) - (360 : Int32))), .val (.int ((HMod.hMod (p4 &&& (2147483647 : Int32)) (721 : Int32)) - (360 : Int32))), .val (.int y1), .val (.int y2), .val (.int y3), .val (.int y4), .val (.ref b14), .val (.int pp), .val (.int qq), .val (.int (own_b (own_in pp qq y1 y2 y3 y4)))] [(.int (1 : Int32))])) _
    refine XS.goto X5.here hx rfl (pc0 := 205) (pc' := 209) rfl (hb hby at_205) (by decide) (by decide) ?_
    show Steps p.tables e below (T5.setTop (mkF m 209 #[.val (.int p1), .val (.int p2), .val (.int p3), .val (.int p4), .val (.int p5), .val (.int p6), .val (.int ((HMod.hMod (p1 &&& (2147483647 : Int32)) (361 : Int32)) - (180 : Int32))), .val (.int ((HMod.hMod (p2 &&& (2147483647 : Int32)) (361 : Int32)) - (180 : Int32))), .val (.int ((HMod.hMod (p3 &&& (2147483647 : Int32)) (721 : Int32)) - (360 : Int32))), .val (.int ((HMod.hMod (p4 &&& (2147483647 : Int32)) (721 : Int32)) - (360 : Int32))), .val (.int y1), .val (.int y2), .val (.int y3), .val (.int y4), .val (.ref b14), .val (.int pp), .val (.int qq), .val (.int (own_b (own_in pp qq y1 y2 y3 y4)))] [(.int (1 : Int32))])) _
    exact retN X5 hx (t := .boolean) Bd.returns (by simp) (hb hby at_209) hr
  · exact ⟨rfl, N5⟩
theorem own_eqv {args : Array Value} {s : State} {t : Term} {k : Int32} (h : (Cond.eq t (.int k)).value args s none s [] = some true) : t.eval args s none [] s = some (.int k) := by
  obtain ⟨x, y, hx, hy, k1, k2⟩ := cmp_v (Or.inl h)
  obtain rfl : y = .int k := (Option.some.inj ((Term.int_eval k).symm.trans hy)).symm
  obtain ⟨z, rfl⟩ := k2
  rw [hx]; congr 2
  exact gotT (Cond.eq_ints hx hy) h
theorem own_eqr {args : Array Value} {s : State} {t u : Term} {b : Addr} (h : (Cond.eq t u).value args s none s [] = some true) (hu : u.eval args s none [] s = some (.ref b)) : t.eval args s none [] s = some (.ref b) := by
  obtain ⟨x, y, hx, hy, k1, k2⟩ := cmp_v (Or.inl h)
  obtain rfl : y = .ref b := (Option.some.inj (hu.symm.trans hy)).symm
  rw [hx]; congr 1
  exact gotT (eq_R hx hy k2.2 rfl) h
theorem own_len {args : Array Value} {s : State} {t : Term} {a : Addr} {cl : Cell} {n : Int32} (h : (Term.length t).eval args s none [] s = some (.int n)) (ht : t.eval args s none [] s = some (.ref a)) (hc : s.heap[a]? = some cl) : cl.slots.size = n.toNatClampNeg ∧ ¬ n < 0 := by
  obtain ⟨a', cell, e1, e2, e3⟩ := Term.length_spec h
  cases ht.symm.trans e1
  cases hc.symm.trans (State.arrayAt?_spec e2).1
  have hl : cl.slots.size < 2 ^ 31 := by
    by_cases hn : cl.slots.size < 2147483648
    · exact hn
    · simp [Term.eval, ht, e2, hn] at h
  have q := len_toInt hl
  cases e3
  refine ⟨?_, fun hh => ?_⟩
  · simp only [Int32.toNatClampNeg, q]; rfl
  · rw [Int32.lt_iff_toInt_lt, q] at hh
    have z0 : (0 : Int32).toInt = 0 := by decide
    omega
theorem own_perm : ∀ p ∈ own_EL, p ∈ consts_1 := by decide
set_option maxRecDepth 65536 in
set_option maxHeartbeats 40000000 in
theorem comes_1 {Post : Tables → Env → Array Value → State → Outcome → State → Prop} (hpost : ∀ tb e args s v u, (limb_1_1.after args s (.returned v) u = true ∧ limb_1_2.after args s (.returned v) u = true ∧ True) → ReturnedEndW s (.returned v) u (Jvm.fieldLocs frame_1_writes args s ++ Jvm.arrayLocs frame_1_arrays args s ++ Jvm.staticLocs frame_1_statics s) 64 5888 → Post tb e args s (.returned v) u) :
    ArmFor flags0 classFile x code maxLocals ret World_1 tables_1 room_1 Calls_1 rest_1 Pre_1 Post := by
  intro l hfl _ _ p e ha hc hk s m args below hf hA hF happ hP
  obtain ⟨hcalls, hrest, hpre⟩ := hP
  obtain ⟨-, -, -, hnamed, -, -, -, hat⟩ := (Spec.applies_iff hf).mp happ
  obtain ⟨hg, hn⟩ := and_e (Cond.before_iff.mp (show (Jvm.Cond.and given_1 narrow_1).before args s = true from hpre))
  obtain ⟨g14, g15⟩ := and_e hg
  obtain ⟨g16, g17⟩ := and_e g15
  obtain ⟨g18, g19⟩ := and_e g17
  obtain ⟨g20, g21⟩ := and_e g19
  obtain ⟨g22, g23⟩ := and_e g21
  obtain ⟨g24, g25⟩ := and_e g23
  obtain ⟨w0, w1, w2, w3, w4, w5, rfl⟩ : ∃ w0 w1 w2 w3 w4 w5 : Value, args = #[w0, w1, w2, w3, w4, w5] := by
    have hs : args.size = 6 := by simpa [Cond.value, given_1] using g14
    obtain ⟨L⟩ := args
    match L, hs with
    | [w0, w1, w2, w3, w4, w5], _ => exact ⟨w0, w1, w2, w3, w4, w5, rfl⟩
  have hw := fun d (hd : d ∈ tables_1) => atoms_spec (ws := Jvm.Cond.code x code maxLocals ret :: tables_1) hat d (List.mem_cons_of_mem _ hd)
  have hfit : Fit s := fun {y c} hc i hi => by
    obtain ⟨ha, rfl⟩ := Array.getElem?_eq_some_iff.mp hc
    have q := List.all_eq_true.mp ((Array.all_eq_true_iff_forall_mem.mp hF) _ (Array.getElem_mem ha)) i (List.mem_range.mpr hi)
    simpa [Array.getElem?_eq_getElem hi] using q
  obtain ⟨hsets, hown0⟩ := atoms_of _ (rest_1_c_eq ▸ (show rest_1_c.before _ s = true from hrest))
  have hr0 := Cond.before_iff.mp hown0
  obtain ⟨i0, ei0⟩ := is_v g16
  obtain rfl : w0 = (.int i0) := Option.some.inj ei0
  obtain ⟨i1, ei1⟩ := is_v g18
  obtain rfl : w1 = (.int i1) := Option.some.inj ei1
  obtain ⟨i2, ei2⟩ := is_v g20
  obtain rfl : w2 = (.int i2) := Option.some.inj ei2
  obtain ⟨i3, ei3⟩ := is_v g22
  obtain rfl : w3 = (.int i3) := Option.some.inj ei3
  obtain ⟨i4, ei4⟩ := is_v g24
  obtain rfl : w4 = (.int i4) := Option.some.inj ei4
  obtain ⟨i5, ei5⟩ := is_v g25
  obtain rfl : w5 = (.int i5) := Option.some.inj ei5
  have n5 := not_v (Cond.before_iff.mp (hsets _ (List.mem_of_getElem? (i := 2) rfl)))
  obtain ⟨G1, e9⟩ := is_v (Cond.before_iff.mp (hsets _ (List.mem_of_getElem? (i := 1) rfl)))
  have SCS : Sta s s.heap "java/lang/String" "COMPACT_STRINGS" "Z" (.int G1) := Sta.start e9 (Or.inl (hsets _ (List.mem_of_getElem? (i := 0) rfl)))
  have hcs : ¬ (G1 = (0 : Int32)) := gotF (Cond.eq_ints e9 (Term.int_eval (0))) n5
  have hwS : ∀ d ∈ Bundle.stringAtoms, d.before #[(.int i0), (.int i1), (.int i2), (.int i3), (.int i4), (.int i5)] s = true := fun d hd => hw d ((by decide +kernel : ∀ d ∈ Bundle.stringAtoms, d ∈ tables_1) d hd)
  have hEL : EW s #[(.int i0), (.int i1), (.int i2), (.int i3), (.int i4), (.int i5)] own_EL := (EW.cons (hw _ (List.mem_of_getElem? (i := 23) rfl)) own_tx7.1 (EW.cons (hw _ (List.mem_of_getElem? (i := 102) rfl)) own_tx35.1 (EW.cons (hw _ (List.mem_of_getElem? (i := 168) rfl)) own_tx47.1 (EW.cons (hw _ (List.mem_of_getElem? (i := 174) rfl)) own_tx52.1 (EW.cons (hw _ (List.mem_of_getElem? (i := 175) rfl)) own_tx54.1 EW.nil)))))
  have hCH : CHv s own_EL s.vm s.heap := CHv.start hEL (fun p hp => hcalls.1 p (own_perm p hp)) (hsets _ (List.mem_of_getElem? (i := 2) rfl)) (hw _ (List.mem_of_getElem? (i := 26) rfl)) (hw _ (List.mem_of_getElem? (i := 25) rfl))
  obtain ⟨n, o, h1, h2, h3, _, L, rfl, ⟨rfl, N⟩, hq⟩ := rm0 l s _ hw hwS hEL tables_1 i0 i1 i2 i3 i4 i5 s.heap s.heap.size (Nat.le_refl _) (Old.start s) ⟨G1, SCS, hcs⟩ p e ha hc hk s m _ below hf ((Spec.applies_iff_loose hf).mp happ).1 ⟨rfl, State.Warmed39.refl s, rfl, hCH⟩ trivial
  exact ⟨n, _, h1, h2, h3, hpost _ _ _ _ _ _ ⟨Cond.after_iff.mpr rfl, Cond.after_iff.mpr (eq_i res_at (Term.int_eval (1)) rfl), trivial⟩ ⟨hq.1, hq.2.1, hq.2.2.1, (hq.2.2.2.sift fun y hy => Or.inr (N y hy)).mono (by decide) (by decide)⟩⟩
theorem main_1_1 : Claimed_1_1 := comes_1 fun _ _ _ _ _ _ h hF => ⟨h.1, hF⟩
theorem main_1_2 : Claimed_1_2 := comes_1 fun _ _ _ _ _ _ h hF => ⟨h.2.1, hF⟩
end Jvm.Pilot.@@N@@
namespace Jvm.Pilot.@@N@@
open Jvm Jvm.ClassFile Sem Op Lib Jvm.Free Jvm.Stand Jvm.Pilot.@@N@@.Jvm.D
/-! MADE BY PROGRAM (witnessworld.py) out of the Statement's table words and the real class files: 25 classes; the members and pool entries that the words name. The judged class is class 1, her method 1. -/
namespace start1
open Jvm.ClassFile
def u (s : String) : CpInfo := .utf8 (stringToUtf16 s)
/-- a pool by its gaps: so many unusable entries, then the entry; so many at the end -/
def gap : Nat → List CpInfo → List CpInfo
  | 0, r => r
  | n + 1, r => .unusable :: gap n r
def poolList (es : List (Nat × CpInfo)) (last : Nat) : List CpInfo := es.foldr (fun e r => gap e.1 (e.2 :: r)) (gap last [])
def pool (es : List (Nat × CpInfo)) (last : Nat) : Array CpInfo := ⟨poolList es last⟩
def fileOf (pool : Array CpInfo) (this : Nat) (attrs : Array Attribute := #[]) (ms : Array MethodInfo := #[]) (fl : Nat := 33) (sup : Nat := 0) (ifs : Array Nat := #[]) (fds : Array FieldInfo := #[]) : ClassFile where
  minorVersion := 0
  majorVersion := 65
  constantPool := pool
  accessFlags := fl
  thisClass := this
  superClass := sup
  interfaces := ifs
  fields := fds
  methods := ms
  attributes := attrs
def plain (name : String) (sup : Option ClassId) : Class where
  name := name
  kind := .ordinary
  loader := none
  accessFlags := 33
  super := sup
  interfaces := #[]
  cf := none
  fields := #[]
  methods := #[]
  instanceTypes := #[]
  staticTypes := #[]
  resolved := #[]
  callSites := []
  init := .initialized
  statics := none
  mirror := none

def pool0 : Array CpInfo := pool [(5, u "<init>"), (0, u "()V"), (1, .class_ 10), (1, u "java/lang/Object")] 113

def k0c0 : Code := { maxStack := 0, maxLocals := 1, code := object_method_1_code, exceptionTable := #[], attributes := #[] }
def k0m0 : Method := { name := "<init>", desc := "()V", sig := { parameters := [], returnType := none }, accessFlags := 1, code := some k0c0 }
/-- java/lang/Object -/
def k0 : Class := { plain "java/lang/Object" none with
  accessFlags := 33
  interfaces := #[]
  cf := some (fileOf pool0 8 #[] #[{ accessFlags := 1, nameIndex := 5, descriptorIndex := 6, attributes := #[] }] 33 0 #[] #[])
  fields := #[]
  methods := #[k0m0]
  instanceTypes := #[]
  staticTypes := #[]
  resolved := Array.replicate 124 none
  statics := none }

def pool1 : Array CpInfo := pool [(2, .class_ 4), (1, u "java/lang/Object"), (0, u "<init>"), (0, u "()V"), (0, .integer 2147483647), (0, .methodref 9 10), (0, .class_ 11), (0, .nameAndType 12 13), (0, u "java/lang/Math"), (0, u "min"), (0, u "(II)I"), (0, .methodref 9 15), (0, .nameAndType 16 13), (0, u "max"), (0, .class_ 18), (0, u "com/example/tidegrid/tidegrid/Box"), (0, .double 4611686018427387904), (1, .methodref 17 22), (0, .nameAndType 5 23), (0, u "(DDDD)V"), (0, .methodref 17 25), (0, .nameAndType 26 27), (0, u "contains"), (0, u "(DD)Z"), (0, .class_ 29), (0, u "com/example/tidegrid/tidegrid/BoxContainsPinLaw"), (2, u "law"), (0, u "(IIIIII)Z")] 3

def k1m0 : Method := { name := "<init>", desc := "()V", sig := { parameters := [], returnType := none }, accessFlags := 2, code := none }
def k1c1 : Code := { maxStack := 12, maxLocals := 18, code := code, exceptionTable := #[], attributes := #[] }
def k1m1 : Method := { name := "law", desc := "(IIIIII)Z", sig := { parameters := [.int, .int, .int, .int, .int, .int], returnType := some .boolean }, accessFlags := 9, code := some k1c1 }
/-- com/example/tidegrid/tidegrid/BoxContainsPinLaw -/
def k1 : Class := { plain "com/example/tidegrid/tidegrid/BoxContainsPinLaw" (some 0) with
  accessFlags := 49
  interfaces := #[]
  cf := some (fileOf pool1 28 #[] #[{ accessFlags := 2, nameIndex := 5, descriptorIndex := 6, attributes := #[] }, { accessFlags := 9, nameIndex := 32, descriptorIndex := 33, attributes := #[] }] 49 2 #[] #[])
  fields := #[]
  methods := #[k1m0, k1m1]
  instanceTypes := #[]
  staticTypes := #[]
  resolved := Array.replicate 37 none
  statics := none }

def pool2 : Array CpInfo := pool [(1, .class_ 2), (0, u "java/lang/Math"), (1, .class_ 6), (1, u "java/lang/Object"), (0, u "<init>"), (0, u "()V"), (89, .class_ 100), (1, u "java/lang/Math$RandomNumberGeneratorHolder"), (71, u "negativeZeroFloatBits"), (0, u "J"), (2, u "negativeZeroDoubleBits"), (21, u "max"), (2, u "min"), (43, u "$assertionsDisabled"), (0, u "Z"), (88, u "(II)I"), (2, u "twoToTheDoubleScaleDown"), (0, u "D"), (4, u "twoToTheDoubleScaleUp"), (9, u "E"), (3, u "PI"), (2, u "TAU"), (2, u "DEGREES_TO_RADIANS"), (0, u "RADIANS_TO_DEGREES")] 94

def k2m0 : Method := { name := "<init>", desc := "()V", sig := { parameters := [], returnType := none }, accessFlags := 2, code := none }
def k2c1 : Code := { maxStack := 2, maxLocals := 2, code := jdk_29_method_65_code, exceptionTable := #[], attributes := #[] }
def k2m1 : Method := { name := "max", desc := "(II)I", sig := { parameters := [.int, .int], returnType := some .int }, accessFlags := 9, code := some k2c1 }
def k2c2 : Code := { maxStack := 2, maxLocals := 2, code := jdk_29_method_69_code, exceptionTable := #[], attributes := #[] }
def k2m2 : Method := { name := "min", desc := "(II)I", sig := { parameters := [.int, .int], returnType := some .int }, accessFlags := 9, code := some k2c2 }
/-- java/lang/Math -/
def k2 : Class := { plain "java/lang/Math" (some 0) with
  accessFlags := 49
  interfaces := #[]
  cf := some (fileOf pool2 1 #[.nestMembers #[98]] #[{ accessFlags := 2, nameIndex := 7, descriptorIndex := 8, attributes := #[] }, { accessFlags := 9, nameIndex := 198, descriptorIndex := 335, attributes := #[] }, { accessFlags := 9, nameIndex := 201, descriptorIndex := 335, attributes := #[] }] 49 4 #[] #[{ accessFlags := 25, nameIndex := 354, descriptorIndex := 339, attributes := #[] }, { accessFlags := 25, nameIndex := 358, descriptorIndex := 339, attributes := #[] }, { accessFlags := 25, nameIndex := 361, descriptorIndex := 339, attributes := #[] }, { accessFlags := 26, nameIndex := 364, descriptorIndex := 339, attributes := #[] }, { accessFlags := 26, nameIndex := 365, descriptorIndex := 339, attributes := #[] }, { accessFlags := 26, nameIndex := 172, descriptorIndex := 173, attributes := #[] }, { accessFlags := 26, nameIndex := 176, descriptorIndex := 173, attributes := #[] }, { accessFlags := 8, nameIndex := 344, descriptorIndex := 339, attributes := #[] }, { accessFlags := 8, nameIndex := 338, descriptorIndex := 339, attributes := #[] }, { accessFlags := 4120, nameIndex := 245, descriptorIndex := 246, attributes := #[] }])
  fields := #[{ name := "E", type := .double, accessFlags := 25, slot := 0, constantValue := 0 }, { name := "PI", type := .double, accessFlags := 25, slot := 1, constantValue := 0 }, { name := "TAU", type := .double, accessFlags := 25, slot := 2, constantValue := 0 }, { name := "DEGREES_TO_RADIANS", type := .double, accessFlags := 26, slot := 3, constantValue := 0 }, { name := "RADIANS_TO_DEGREES", type := .double, accessFlags := 26, slot := 4, constantValue := 0 }, { name := "negativeZeroFloatBits", type := .long, accessFlags := 26, slot := 5, constantValue := 0 }, { name := "negativeZeroDoubleBits", type := .long, accessFlags := 26, slot := 6, constantValue := 0 }, { name := "twoToTheDoubleScaleUp", type := .double, accessFlags := 8, slot := 7, constantValue := 0 }, { name := "twoToTheDoubleScaleDown", type := .double, accessFlags := 8, slot := 8, constantValue := 0 }, { name := "$assertionsDisabled", type := .boolean, accessFlags := 4120, slot := 9, constantValue := 0 }]
  methods := #[k2m0, k2m1, k2m2]
  instanceTypes := #[]
  staticTypes := #[.double, .double, .double, .double, .double, .long, .long, .double, .double, .boolean]
  resolved := Array.replicate 460 none
  statics := none }

def pool3 : Array CpInfo := pool [(1, .methodref 2 3), (0, .class_ 4), (0, .nameAndType 5 6), (0, u "java/lang/Object"), (0, u "<init>"), (0, u "()V"), (0, .class_ 8), (0, u "java/lang/Record")] 13

def k3c0 : Code := { maxStack := 1, maxLocals := 1, code := jdk_30_method_1_code, exceptionTable := #[], attributes := #[] }
def k3m0 : Method := { name := "<init>", desc := "()V", sig := { parameters := [], returnType := none }, accessFlags := 4, code := some k3c0 }
/-- java/lang/Record -/
def k3 : Class := { plain "java/lang/Record" (some 0) with
  accessFlags := 1057
  interfaces := #[]
  cf := some (fileOf pool3 7 #[] #[{ accessFlags := 4, nameIndex := 5, descriptorIndex := 6, attributes := #[] }] 1057 2 #[] #[])
  fields := #[]
  methods := #[k3m0]
  instanceTypes := #[]
  staticTypes := #[]
  resolved := Array.replicate 22 none
  statics := none }

def pool4 : Array CpInfo := pool [(1, .methodref 2 3), (0, .class_ 4), (0, .nameAndType 5 6), (0, u "java/lang/Record"), (0, u "<init>"), (0, u "()V"), (0, .string 8), (0, u "box"), (0, .methodref 10 11), (0, .class_ 12), (0, .nameAndType 13 14), (0, u "com/example/tidegrid/tidegrid/Box"), (0, u "requireEdges"), (0, u "(DDDDLjava/lang/String;)V"), (0, .fieldref 10 16), (0, .nameAndType 17 18), (0, u "minLat"), (0, u "D"), (0, .fieldref 10 20), (0, .nameAndType 21 18), (0, u "minLon"), (0, .fieldref 10 23), (0, .nameAndType 24 18), (0, u "maxLat"), (0, .fieldref 10 26), (0, .nameAndType 27 18), (0, u "maxLon"), (0, .class_ 29), (0, u "java/lang/StringBuilder"), (0, .methodref 28 3), (0, .methodref 28 32), (0, .nameAndType 33 34), (0, u "append"), (0, u "(Ljava/lang/String;)Ljava/lang/StringBuilder;"), (0, .string 36), (0, u " minimum latitude"), (0, .methodref 28 38), (0, .nameAndType 39 40), (0, u "toString"), (0, u "()Ljava/lang/String;"), (0, .methodref 42 43), (0, .class_ 44), (0, .nameAndType 45 46), (0, u "com/example/tidegrid/tidegrid/GreatCircle"), (0, u "requireLatitude"), (0, u "(DLjava/lang/String;)V"), (0, .string 48), (0, u " minimum longitude"), (0, .methodref 42 50), (0, .nameAndType 51 46), (0, u "requireLongitude"), (0, .string 53), (0, u " maximum latitude"), (0, .string 55), (0, u " maximum longitude"), (46, u "(DDDD)V"), (2, u "WORLD"), (0, u "Lcom/example/tidegrid/tidegrid/Box;"), (4, u "contains"), (0, u "(DD)Z")] 29

def k4c0 : Code := { maxStack := 9, maxLocals := 9, code := prog_17_method_1_code, exceptionTable := #[], attributes := #[] }
def k4m0 : Method := { name := "<init>", desc := "(DDDD)V", sig := { parameters := [.double, .double, .double, .double], returnType := none }, accessFlags := 1, code := some k4c0 }
def k4c1 : Code := { maxStack := 5, maxLocals := 9, code := prog_17_method_2_code, exceptionTable := #[], attributes := #[] }
def k4m1 : Method := { name := "requireEdges", desc := "(DDDDLjava/lang/String;)V", sig := { parameters := [.double, .double, .double, .double, (.object "java/lang/String")], returnType := none }, accessFlags := 8, code := some k4c1 }
def k4c2 : Code := { maxStack := 4, maxLocals := 5, code := prog_17_method_3_code, exceptionTable := #[], attributes := #[] }
def k4m2 : Method := { name := "contains", desc := "(DD)Z", sig := { parameters := [.double, .double], returnType := some .boolean }, accessFlags := 1, code := some k4c2 }
/-- com/example/tidegrid/tidegrid/Box -/
def k4 : Class := { plain "com/example/tidegrid/tidegrid/Box" (some 3) with
  accessFlags := 49
  interfaces := #[]
  cf := some (fileOf pool4 10 #[] #[{ accessFlags := 1, nameIndex := 5, descriptorIndex := 102, attributes := #[] }, { accessFlags := 8, nameIndex := 13, descriptorIndex := 14, attributes := #[] }, { accessFlags := 1, nameIndex := 111, descriptorIndex := 112, attributes := #[] }] 49 2 #[] #[{ accessFlags := 18, nameIndex := 17, descriptorIndex := 18, attributes := #[] }, { accessFlags := 18, nameIndex := 21, descriptorIndex := 18, attributes := #[] }, { accessFlags := 18, nameIndex := 24, descriptorIndex := 18, attributes := #[] }, { accessFlags := 18, nameIndex := 27, descriptorIndex := 18, attributes := #[] }, { accessFlags := 25, nameIndex := 105, descriptorIndex := 106, attributes := #[] }])
  fields := #[{ name := "minLat", type := .double, accessFlags := 18, slot := 0, constantValue := 0 }, { name := "minLon", type := .double, accessFlags := 18, slot := 1, constantValue := 0 }, { name := "maxLat", type := .double, accessFlags := 18, slot := 2, constantValue := 0 }, { name := "maxLon", type := .double, accessFlags := 18, slot := 3, constantValue := 0 }, { name := "WORLD", type := (.object "com/example/tidegrid/tidegrid/Box"), accessFlags := 25, slot := 0, constantValue := 0 }]
  methods := #[k4m0, k4m1, k4m2]
  instanceTypes := #[.double, .double, .double, .double]
  staticTypes := #[(.object "com/example/tidegrid/tidegrid/Box")]
  resolved := Array.replicate 142 none
  statics := none }

def pool5 : Array CpInfo := pool [(1, .class_ 2), (0, u "java/io/Serializable"), (0, .class_ 4), (0, u "java/lang/Object")] 2

/-- java/io/Serializable -/
def k5 : Class := { plain "java/io/Serializable" (some 0) with
  accessFlags := 1537
  interfaces := #[]
  cf := some (fileOf pool5 1 #[] #[] 1537 3 #[] #[])
  fields := #[]
  methods := #[]
  instanceTypes := #[]
  staticTypes := #[]
  resolved := Array.replicate 7 none
  statics := none }

def pool6 : Array CpInfo := pool [(1, .class_ 2), (0, u "java/lang/Comparable"), (0, .class_ 4), (0, u "java/lang/Object")] 7

/-- java/lang/Comparable -/
def k6 : Class := { plain "java/lang/Comparable" (some 0) with
  accessFlags := 1537
  interfaces := #[]
  cf := some (fileOf pool6 1 #[] #[] 1537 3 #[] #[])
  fields := #[]
  methods := #[]
  instanceTypes := #[]
  staticTypes := #[]
  resolved := Array.replicate 12 none
  statics := none }

def pool7 : Array CpInfo := pool [(2, .class_ 4), (1, u "java/lang/CharSequence"), (42, .class_ 48), (0, u "java/lang/CharSequence$1CodePointIterator"), (10, .class_ 60), (0, u "java/lang/CharSequence$1CharIterator"), (5, .class_ 67), (0, u "java/lang/Object")] 63

/-- java/lang/CharSequence -/
def k7 : Class := { plain "java/lang/CharSequence" (some 0) with
  accessFlags := 1537
  interfaces := #[]
  cf := some (fileOf pool7 2 #[.nestMembers #[47, 59]] #[] 1537 66 #[] #[])
  fields := #[]
  methods := #[]
  instanceTypes := #[]
  staticTypes := #[]
  resolved := Array.replicate 131 none
  statics := none }

def pool8 : Array CpInfo := pool [(1, .class_ 2), (0, u "java/lang/constant/Constable"), (0, .class_ 4), (0, u "java/lang/Object")] 6

/-- java/lang/constant/Constable -/
def k8 : Class := { plain "java/lang/constant/Constable" (some 0) with
  accessFlags := 1537
  interfaces := #[]
  cf := some (fileOf pool8 1 #[] #[] 1537 3 #[] #[])
  fields := #[]
  methods := #[]
  instanceTypes := #[]
  staticTypes := #[]
  resolved := Array.replicate 11 none
  statics := none }

def pool9 : Array CpInfo := pool [(1, .class_ 2), (0, u "java/lang/constant/ConstantDesc"), (0, .class_ 4), (0, u "java/lang/Object")] 32

/-- java/lang/constant/ConstantDesc -/
def k9 : Class := { plain "java/lang/constant/ConstantDesc" (some 0) with
  accessFlags := 1537
  interfaces := #[]
  cf := some (fileOf pool9 1 #[] #[] 1537 3 #[] #[])
  fields := #[]
  methods := #[]
  instanceTypes := #[]
  staticTypes := #[]
  resolved := Array.replicate 37 none
  statics := none }

def pool10 : Array CpInfo := pool [(1, .methodref 2 3), (0, .class_ 4), (0, .nameAndType 5 6), (0, u "java/lang/Object"), (0, u "<init>"), (0, u "()V"), (2, .fieldref 10 11), (0, .class_ 12), (0, .nameAndType 13 14), (0, u "java/lang/String"), (0, u "value"), (0, u "[B"), (0, .fieldref 10 16), (0, .nameAndType 17 18), (0, u "coder"), (0, u "B"), (2, u "hash"), (0, u "I"), (2, u "hashIsZero"), (0, u "Z"), (11, .fieldref 10 39), (0, .nameAndType 40 26), (0, u "COMPACT_STRINGS"), (13, .methodref 55 56), (0, .class_ 57), (0, .nameAndType 58 59), (0, u "java/util/Arrays"), (0, u "copyOfRange"), (0, u "([BII)[B"), (82, u "()Z"), (50, .class_ 195), (1, u "java/lang/System"), (16, .methodref 193 213), (0, .nameAndType 214 215), (0, u "arraycopy"), (0, u "(Ljava/lang/Object;ILjava/lang/Object;II)V"), (118, u "()I"), (0, .methodref 10 336), (0, .nameAndType 17 337), (0, u "()B"), (2, u "()[B"), (148, .methodref 10 490), (0, .nameAndType 5 491), (0, u "(Ljava/lang/AbstractStringBuilder;Ljava/lang/Void;)V"), (1, .nameAndType 494 142), (0, u "isLatin1"), (11, .nameAndType 507 334), (0, u "length"), (24, u "getBytes"), (16, .methodref 550 506), (0, .class_ 551), (0, u "java/lang/AbstractStringBuilder"), (0, .methodref 550 553), (0, .nameAndType 554 340), (0, u "getValue"), (20, .class_ 576), (0, u "java/lang/CharSequence"), (22, u "CASE_INSENSITIVE_ORDER"), (0, u "Ljava/util/Comparator;"), (220, u "([BIB)V"), (225, .methodref 550 493), (53, u "serialPersistentFields"), (0, u "[Ljava/io/ObjectStreamField;"), (0, .class_ 1104), (0, u "java/lang/String$CaseInsensitiveComparator"), (1, .class_ 1107), (0, u "java/io/Serializable"), (0, .class_ 1109), (0, u "java/lang/Comparable"), (0, .class_ 1111), (0, u "java/lang/constant/Constable"), (0, .class_ 1113), (0, u "java/lang/constant/ConstantDesc"), (2, u "serialVersionUID"), (0, u "J"), (3, u "REPL"), (0, u "C"), (2, u "LATIN1"), (1, u "UTF16"), (105, u "(Ljava/lang/StringBuilder;)V")] 217

def k10m0 : Method := { name := "<init>", desc := "()V", sig := { parameters := [], returnType := none }, accessFlags := 1, code := none }
def k10c1 : Code := { maxStack := 3, maxLocals := 2, code := jdk_42_method_53_code, exceptionTable := #[], attributes := #[] }
def k10m1 : Method := { name := "<init>", desc := "(Ljava/lang/StringBuilder;)V", sig := { parameters := [(.object "java/lang/StringBuilder")], returnType := none }, accessFlags := 1, code := some k10c1 }
def k10c2 : Code := { maxStack := 2, maxLocals := 1, code := jdk_42_method_54_code, exceptionTable := #[], attributes := #[] }
def k10m2 : Method := { name := "length", desc := "()I", sig := { parameters := [], returnType := some .int }, accessFlags := 1, code := some k10c2 }
def k10c3 : Code := { maxStack := 5, maxLocals := 4, code := jdk_42_method_147_code, exceptionTable := #[], attributes := #[] }
def k10m3 : Method := { name := "getBytes", desc := "([BIB)V", sig := { parameters := [(.array .byte), .int, .byte], returnType := none }, accessFlags := 0, code := some k10c3 }
def k10c4 : Code := { maxStack := 5, maxLocals := 5, code := jdk_42_method_150_code, exceptionTable := #[], attributes := #[] }
def k10m4 : Method := { name := "<init>", desc := "(Ljava/lang/AbstractStringBuilder;Ljava/lang/Void;)V", sig := { parameters := [(.object "java/lang/AbstractStringBuilder"), (.object "java/lang/Void")], returnType := none }, accessFlags := 0, code := some k10c4 }
def k10c5 : Code := { maxStack := 1, maxLocals := 1, code := jdk_42_method_152_code, exceptionTable := #[], attributes := #[] }
def k10m5 : Method := { name := "coder", desc := "()B", sig := { parameters := [], returnType := some .byte }, accessFlags := 0, code := some k10c5 }
/-- java/lang/String -/
def k10 : Class := { plain "java/lang/String" (some 0) with
  accessFlags := 49
  interfaces := #[5, 6, 7, 8, 9]
  cf := some (fileOf pool10 10 #[.nestMembers #[1103]] #[{ accessFlags := 1, nameIndex := 5, descriptorIndex := 6, attributes := #[] }, { accessFlags := 1, nameIndex := 5, descriptorIndex := 1233, attributes := #[] }, { accessFlags := 1, nameIndex := 507, descriptorIndex := 334, attributes := #[] }, { accessFlags := 0, nameIndex := 532, descriptorIndex := 821, attributes := #[] }, { accessFlags := 0, nameIndex := 5, descriptorIndex := 491, attributes := #[] }, { accessFlags := 0, nameIndex := 17, descriptorIndex := 337, attributes := #[] }] 49 2 #[1106, 1108, 575, 1110, 1112] #[{ accessFlags := 18, nameIndex := 13, descriptorIndex := 14, attributes := #[] }, { accessFlags := 18, nameIndex := 17, descriptorIndex := 18, attributes := #[] }, { accessFlags := 2, nameIndex := 21, descriptorIndex := 22, attributes := #[] }, { accessFlags := 2, nameIndex := 25, descriptorIndex := 26, attributes := #[] }, { accessFlags := 26, nameIndex := 1116, descriptorIndex := 1117, attributes := #[] }, { accessFlags := 24, nameIndex := 40, descriptorIndex := 26, attributes := #[] }, { accessFlags := 26, nameIndex := 1101, descriptorIndex := 1102, attributes := #[] }, { accessFlags := 26, nameIndex := 1121, descriptorIndex := 1122, attributes := #[] }, { accessFlags := 25, nameIndex := 599, descriptorIndex := 600, attributes := #[] }, { accessFlags := 24, nameIndex := 1125, descriptorIndex := 18, attributes := #[] }, { accessFlags := 24, nameIndex := 1127, descriptorIndex := 18, attributes := #[] }])
  fields := #[{ name := "value", type := (.array .byte), accessFlags := 18, slot := 0, constantValue := 0 }, { name := "coder", type := .byte, accessFlags := 18, slot := 1, constantValue := 0 }, { name := "hash", type := .int, accessFlags := 2, slot := 2, constantValue := 0 }, { name := "hashIsZero", type := .boolean, accessFlags := 2, slot := 3, constantValue := 0 }, { name := "serialVersionUID", type := .long, accessFlags := 26, slot := 0, constantValue := 0 }, { name := "COMPACT_STRINGS", type := .boolean, accessFlags := 24, slot := 1, constantValue := 0 }, { name := "serialPersistentFields", type := (.array (.object "java/io/ObjectStreamField")), accessFlags := 26, slot := 2, constantValue := 0 }, { name := "REPL", type := .char, accessFlags := 26, slot := 3, constantValue := 0 }, { name := "CASE_INSENSITIVE_ORDER", type := (.object "java/util/Comparator"), accessFlags := 25, slot := 4, constantValue := 0 }, { name := "LATIN1", type := .byte, accessFlags := 24, slot := 5, constantValue := 0 }, { name := "UTF16", type := .byte, accessFlags := 24, slot := 6, constantValue := 0 }]
  methods := #[k10m0, k10m1, k10m2, k10m3, k10m4, k10m5]
  instanceTypes := #[(.array .byte), .byte, .int, .boolean]
  staticTypes := #[.long, .boolean, (.array (.object "java/io/ObjectStreamField")), .char, (.object "java/util/Comparator"), .byte, .byte]
  resolved := Array.replicate 1451 none
  statics := some 0 }

def pool11 : Array CpInfo := pool [(1, .class_ 2), (0, u "java/lang/Appendable"), (0, .class_ 4), (0, u "java/lang/Object")] 9

/-- java/lang/Appendable -/
def k11 : Class := { plain "java/lang/Appendable" (some 0) with
  accessFlags := 1537
  interfaces := #[]
  cf := some (fileOf pool11 1 #[] #[] 1537 3 #[] #[])
  fields := #[]
  methods := #[]
  instanceTypes := #[]
  staticTypes := #[]
  resolved := Array.replicate 14 none
  statics := none }

def pool12 : Array CpInfo := pool [(1, .class_ 2), (0, u "java/lang/String"), (0, .methodref 4 5), (0, .class_ 6), (0, .nameAndType 7 8), (0, u "java/lang/Object"), (0, u "<init>"), (0, u "()V"), (1, .class_ 12), (1, u "java/lang/AbstractStringBuilder"), (0, u "EMPTYVALUE"), (0, u "[B"), (0, .fieldref 10 16), (0, .nameAndType 17 14), (0, u "value"), (0, .fieldref 1 19), (0, .nameAndType 20 21), (0, u "COMPACT_STRINGS"), (0, u "Z"), (0, .fieldref 10 23), (0, .nameAndType 24 25), (0, u "coder"), (0, u "B"), (6, .methodref 1 33), (0, .nameAndType 34 35), (0, u "length"), (0, u "()I"), (3, .integer 2147483647), (0, .methodref 1 41), (0, .nameAndType 24 42), (0, u "()B"), (2, u "append"), (0, u "(Ljava/lang/String;)Ljava/lang/AbstractStringBuilder;"), (1, .class_ 49), (0, u "java/lang/CharSequence"), (19, u "(Ljava/lang/String;)V"), (5, u "maybeLatin1"), (3, .fieldref 10 80), (0, .nameAndType 81 82), (0, u "count"), (0, u "I"), (2, u "isLatin1"), (0, u "()Z"), (13, .methodref 10 101), (0, .nameAndType 102 103), (0, u "ensureCapacityInternal"), (0, u "(I)V"), (0, .methodref 10 105), (0, .nameAndType 106 107), (0, u "newCapacity"), (0, u "(I)I"), (0, .methodref 109 110), (0, .class_ 111), (0, .nameAndType 112 113), (0, u "java/util/Arrays"), (0, u "copyOf"), (0, u "([BI)[B"), (0, .methodref 115 116), (0, .class_ 117), (0, .nameAndType 118 119), (0, u "jdk/internal/util/ArraysSupport"), (0, u "newLength"), (0, u "(III)I"), (88, .methodref 10 209), (0, .nameAndType 210 211), (0, u "putStringAt"), (0, u "(ILjava/lang/String;)V"), (5, u "inflateIfNeededFor"), (2, .nameAndType 221 222), (0, u "getBytes"), (0, u "([BIB)V"), (174, .methodref 10 398), (0, .nameAndType 217 69), (0, .methodref 1 220), (3, u "()[B"), (40, .class_ 445), (0, u "java/lang/Appendable"), (106, u "getValue")] 56

def k12m0 : Method := { name := "<init>", desc := "()V", sig := { parameters := [], returnType := none }, accessFlags := 0, code := none }
def k12c1 : Code := { maxStack := 2, maxLocals := 2, code := jdk_68_method_2_code, exceptionTable := #[], attributes := #[] }
def k12m1 : Method := { name := "<init>", desc := "(I)V", sig := { parameters := [.int], returnType := none }, accessFlags := 0, code := some k12c1 }
def k12c2 : Code := { maxStack := 1, maxLocals := 1, code := jdk_68_method_6_code, exceptionTable := #[], attributes := #[] }
def k12m2 : Method := { name := "length", desc := "()I", sig := { parameters := [], returnType := some .int }, accessFlags := 1, code := some k12c2 }
def k12c3 : Code := { maxStack := 4, maxLocals := 3, code := jdk_68_method_9_code, exceptionTable := #[], attributes := #[] }
def k12m3 : Method := { name := "ensureCapacityInternal", desc := "(I)V", sig := { parameters := [.int], returnType := none }, accessFlags := 2, code := some k12c3 }
def k12c4 : Code := { maxStack := 5, maxLocals := 6, code := jdk_68_method_10_code, exceptionTable := #[], attributes := #[] }
def k12m4 : Method := { name := "newCapacity", desc := "(I)I", sig := { parameters := [.int], returnType := some .int }, accessFlags := 2, code := some k12c4 }
def k12c5 : Code := { maxStack := 3, maxLocals := 3, code := jdk_68_method_22_code, exceptionTable := #[], attributes := #[] }
def k12m5 : Method := { name := "append", desc := "(Ljava/lang/String;)Ljava/lang/AbstractStringBuilder;", sig := { parameters := [(.object "java/lang/String")], returnType := some (.object "java/lang/AbstractStringBuilder") }, accessFlags := 1, code := some k12c5 }
def k12c6 : Code := { maxStack := 1, maxLocals := 1, code := jdk_68_method_64_code, exceptionTable := #[], attributes := #[] }
def k12m6 : Method := { name := "getValue", desc := "()[B", sig := { parameters := [], returnType := some (.array .byte) }, accessFlags := 16, code := some k12c6 }
def k12c7 : Code := { maxStack := 1, maxLocals := 1, code := jdk_68_method_68_code, exceptionTable := #[], attributes := #[] }
def k12m7 : Method := { name := "isLatin1", desc := "()Z", sig := { parameters := [], returnType := some .boolean }, accessFlags := 16, code := some k12c7 }
def k12c8 : Code := { maxStack := 2, maxLocals := 2, code := jdk_68_method_71_code, exceptionTable := #[], attributes := #[] }
def k12m8 : Method := { name := "inflateIfNeededFor", desc := "(Ljava/lang/String;)V", sig := { parameters := [(.object "java/lang/String")], returnType := none }, accessFlags := 2, code := some k12c8 }
def k12c9 : Code := { maxStack := 4, maxLocals := 3, code := jdk_68_method_73_code, exceptionTable := #[], attributes := #[] }
def k12m9 : Method := { name := "putStringAt", desc := "(ILjava/lang/String;)V", sig := { parameters := [.int, (.object "java/lang/String")], returnType := none }, accessFlags := 2, code := some k12c9 }
/-- java/lang/AbstractStringBuilder -/
def k12 : Class := { plain "java/lang/AbstractStringBuilder" (some 0) with
  accessFlags := 1056
  interfaces := #[11, 7]
  cf := some (fileOf pool12 10 #[] #[{ accessFlags := 0, nameIndex := 7, descriptorIndex := 8, attributes := #[] }, { accessFlags := 0, nameIndex := 7, descriptorIndex := 103, attributes := #[] }, { accessFlags := 1, nameIndex := 34, descriptorIndex := 35, attributes := #[] }, { accessFlags := 2, nameIndex := 102, descriptorIndex := 103, attributes := #[] }, { accessFlags := 2, nameIndex := 106, descriptorIndex := 107, attributes := #[] }, { accessFlags := 1, nameIndex := 45, descriptorIndex := 46, attributes := #[] }, { accessFlags := 16, nameIndex := 552, descriptorIndex := 403, attributes := #[] }, { accessFlags := 16, nameIndex := 85, descriptorIndex := 86, attributes := #[] }, { accessFlags := 2, nameIndex := 217, descriptorIndex := 69, attributes := #[] }, { accessFlags := 2, nameIndex := 210, descriptorIndex := 211, attributes := #[] }] 1056 4 #[444, 48] #[{ accessFlags := 0, nameIndex := 17, descriptorIndex := 14, attributes := #[] }, { accessFlags := 0, nameIndex := 24, descriptorIndex := 25, attributes := #[] }, { accessFlags := 0, nameIndex := 75, descriptorIndex := 21, attributes := #[] }, { accessFlags := 0, nameIndex := 81, descriptorIndex := 82, attributes := #[] }, { accessFlags := 26, nameIndex := 13, descriptorIndex := 14, attributes := #[] }])
  fields := #[{ name := "value", type := (.array .byte), accessFlags := 0, slot := 0, constantValue := 0 }, { name := "coder", type := .byte, accessFlags := 0, slot := 1, constantValue := 0 }, { name := "maybeLatin1", type := .boolean, accessFlags := 0, slot := 2, constantValue := 0 }, { name := "count", type := .int, accessFlags := 0, slot := 3, constantValue := 0 }, { name := "EMPTYVALUE", type := (.array .byte), accessFlags := 26, slot := 0, constantValue := 0 }]
  methods := #[k12m0, k12m1, k12m2, k12m3, k12m4, k12m5, k12m6, k12m7, k12m8, k12m9]
  instanceTypes := #[(.array .byte), .byte, .boolean, .int]
  staticTypes := #[(.array .byte)]
  resolved := Array.replicate 609 none
  statics := none }

def pool13 : Array CpInfo := pool [(1, .methodref 2 3), (0, .class_ 4), (0, .nameAndType 5 6), (0, u "java/lang/AbstractStringBuilder"), (0, u "<init>"), (0, u "(I)V"), (11, .class_ 20), (1, u "java/lang/String"), (3, .class_ 26), (1, u "java/lang/StringBuilder"), (0, u "append"), (0, u "(Ljava/lang/String;)Ljava/lang/StringBuilder;"), (0, .methodref 2 30), (0, .nameAndType 27 31), (0, u "(Ljava/lang/String;)Ljava/lang/AbstractStringBuilder;"), (105, .methodref 18 138), (0, .nameAndType 5 139), (0, u "(Ljava/lang/StringBuilder;)V"), (5, u "()V"), (10, u "()I"), (186, .methodref 2 344), (0, .nameAndType 345 156), (0, u "length"), (3, .class_ 350), (0, u "java/lang/Appendable"), (0, .class_ 352), (0, u "java/io/Serializable"), (0, .class_ 354), (0, u "java/lang/Comparable"), (0, .class_ 356), (0, u "java/lang/CharSequence"), (0, u "serialVersionUID"), (0, u "J"), (40, u "toString"), (0, u "()Ljava/lang/String;")] 21

def k13c0 : Code := { maxStack := 2, maxLocals := 1, code := jdk_67_method_1_code, exceptionTable := #[], attributes := #[] }
def k13m0 : Method := { name := "<init>", desc := "()V", sig := { parameters := [], returnType := none }, accessFlags := 1, code := some k13c0 }
def k13c1 : Code := { maxStack := 2, maxLocals := 2, code := jdk_67_method_7_code, exceptionTable := #[], attributes := #[] }
def k13m1 : Method := { name := "append", desc := "(Ljava/lang/String;)Ljava/lang/StringBuilder;", sig := { parameters := [(.object "java/lang/String")], returnType := some (.object "java/lang/StringBuilder") }, accessFlags := 1, code := some k13c1 }
def k13c2 : Code := { maxStack := 3, maxLocals := 1, code := jdk_67_method_42_code, exceptionTable := #[], attributes := #[] }
def k13m2 : Method := { name := "toString", desc := "()Ljava/lang/String;", sig := { parameters := [], returnType := some (.object "java/lang/String") }, accessFlags := 1, code := some k13c2 }
def k13c3 : Code := { maxStack := 1, maxLocals := 1, code := jdk_67_method_93_code, exceptionTable := #[], attributes := #[] }
def k13m3 : Method := { name := "length", desc := "()I", sig := { parameters := [], returnType := some .int }, accessFlags := 4161, code := some k13c3 }
/-- java/lang/StringBuilder -/
def k13 : Class := { plain "java/lang/StringBuilder" (some 12) with
  accessFlags := 49
  interfaces := #[11, 5, 6, 7]
  cf := some (fileOf pool13 24 #[] #[{ accessFlags := 1, nameIndex := 5, descriptorIndex := 145, attributes := #[] }, { accessFlags := 1, nameIndex := 27, descriptorIndex := 28, attributes := #[] }, { accessFlags := 1, nameIndex := 399, descriptorIndex := 400, attributes := #[] }, { accessFlags := 4161, nameIndex := 345, descriptorIndex := 156, attributes := #[] }] 49 2 #[349, 351, 353, 355] #[{ accessFlags := 24, nameIndex := 357, descriptorIndex := 358, attributes := #[] }])
  fields := #[{ name := "serialVersionUID", type := .long, accessFlags := 24, slot := 0, constantValue := 0 }]
  methods := #[k13m0, k13m1, k13m2, k13m3]
  instanceTypes := #[(.array .byte), .byte, .boolean, .int]
  staticTypes := #[.long]
  resolved := Array.replicate 422 none
  statics := none }

def pool14 : Array CpInfo := pool [(2, .class_ 4), (1, u "java/lang/Object"), (0, u "<init>"), (0, u "()V"), (1, .class_ 10), (1, u "java/lang/System"), (0, u "allowSecurityManager"), (0, u "I"), (16, u "cons"), (0, u "Ljava/io/Console;"), (77, .class_ 110), (1, u "java/lang/System$CallersHolder"), (43, u "initialErrStream"), (0, u "Ljava/io/PrintStream;"), (19, u "security"), (0, u "Ljava/lang/SecurityManager;"), (31, .class_ 209), (0, u "java/lang/System$1"), (7, u "props"), (0, u "Ljava/util/Properties;"), (2, u "lineSeparator"), (0, u "Ljava/lang/String;"), (96, .class_ 321), (1, u "java/lang/System$LoggerFinder"), (5, .class_ 328), (0, u "java/lang/System$Logger"), (67, u "err"), (2, u "out"), (91, u "notSupportedJnuEncoding"), (15, u "in"), (17, u "initialIn"), (0, u "Ljava/io/InputStream;"), (35, u "bootLayer"), (0, u "Ljava/lang/ModuleLayer;"), (99, .class_ 664), (0, u "java/lang/System$2"), (9, u "NEVER"), (2, u "MAYBE"), (49, u "arraycopy"), (0, u "(Ljava/lang/Object;ILjava/lang/Object;II)V"), (72, .class_ 802), (0, u "java/lang/System$Logger$Level")] 31

def k14m0 : Method := { name := "<init>", desc := "()V", sig := { parameters := [], returnType := none }, accessFlags := 2, code := none }
def k14m1 : Method := { name := "arraycopy", desc := "(Ljava/lang/Object;ILjava/lang/Object;II)V", sig := { parameters := [(.object "java/lang/Object"), .int, (.object "java/lang/Object"), .int, .int], returnType := none }, accessFlags := 265, code := none }
/-- java/lang/System -/
def k14 : Class := { plain "java/lang/System" (some 0) with
  accessFlags := 49
  interfaces := #[]
  cf := some (fileOf pool14 8 #[.nestMembers #[319, 327, 801, 108, 663, 208]] #[{ accessFlags := 2, nameIndex := 5, descriptorIndex := 6, attributes := #[] }, { accessFlags := 265, nameIndex := 727, descriptorIndex := 728, attributes := #[] }] 49 2 #[] #[{ accessFlags := 25, nameIndex := 507, descriptorIndex := 526, attributes := #[] }, { accessFlags := 25, nameIndex := 399, descriptorIndex := 155, attributes := #[] }, { accessFlags := 25, nameIndex := 396, descriptorIndex := 155, attributes := #[] }, { accessFlags := 10, nameIndex := 525, descriptorIndex := 526, attributes := #[] }, { accessFlags := 26, nameIndex := 674, descriptorIndex := 12, attributes := #[] }, { accessFlags := 26, nameIndex := 677, descriptorIndex := 12, attributes := #[] }, { accessFlags := 10, nameIndex := 11, descriptorIndex := 12, attributes := #[] }, { accessFlags := 74, nameIndex := 175, descriptorIndex := 176, attributes := #[] }, { accessFlags := 10, nameIndex := 491, descriptorIndex := 222, attributes := #[] }, { accessFlags := 74, nameIndex := 29, descriptorIndex := 30, attributes := #[] }, { accessFlags := 74, nameIndex := 154, descriptorIndex := 155, attributes := #[] }, { accessFlags := 10, nameIndex := 217, descriptorIndex := 218, attributes := #[] }, { accessFlags := 10, nameIndex := 221, descriptorIndex := 222, attributes := #[] }, { accessFlags := 8, nameIndex := 562, descriptorIndex := 563, attributes := #[] }])
  fields := #[{ name := "in", type := (.object "java/io/InputStream"), accessFlags := 25, slot := 0, constantValue := 0 }, { name := "out", type := (.object "java/io/PrintStream"), accessFlags := 25, slot := 1, constantValue := 0 }, { name := "err", type := (.object "java/io/PrintStream"), accessFlags := 25, slot := 2, constantValue := 0 }, { name := "initialIn", type := (.object "java/io/InputStream"), accessFlags := 10, slot := 3, constantValue := 0 }, { name := "NEVER", type := .int, accessFlags := 26, slot := 4, constantValue := 0 }, { name := "MAYBE", type := .int, accessFlags := 26, slot := 5, constantValue := 0 }, { name := "allowSecurityManager", type := .int, accessFlags := 10, slot := 6, constantValue := 0 }, { name := "security", type := (.object "java/lang/SecurityManager"), accessFlags := 74, slot := 7, constantValue := 0 }, { name := "notSupportedJnuEncoding", type := (.object "java/lang/String"), accessFlags := 10, slot := 8, constantValue := 0 }, { name := "cons", type := (.object "java/io/Console"), accessFlags := 74, slot := 9, constantValue := 0 }, { name := "initialErrStream", type := (.object "java/io/PrintStream"), accessFlags := 74, slot := 10, constantValue := 0 }, { name := "props", type := (.object "java/util/Properties"), accessFlags := 10, slot := 11, constantValue := 0 }, { name := "lineSeparator", type := (.object "java/lang/String"), accessFlags := 10, slot := 12, constantValue := 0 }, { name := "bootLayer", type := (.object "java/lang/ModuleLayer"), accessFlags := 8, slot := 13, constantValue := 0 }]
  methods := #[k14m0, k14m1]
  instanceTypes := #[]
  staticTypes := #[(.object "java/io/InputStream"), (.object "java/io/PrintStream"), (.object "java/io/PrintStream"), (.object "java/io/InputStream"), .int, .int, .int, (.object "java/lang/SecurityManager"), (.object "java/lang/String"), (.object "java/io/Console"), (.object "java/io/PrintStream"), (.object "java/util/Properties"), (.object "java/lang/String"), (.object "java/lang/ModuleLayer")]
  resolved := Array.replicate 834 none
  statics := none }

def pool15 : Array CpInfo := pool [(9, u "<init>"), (6, .class_ 18), (1, u "java/lang/Object"), (0, u "()V"), (1, .class_ 23), (1, u "jdk/internal/util/ArraysSupport"), (0, u "LOG2_ARRAY_LONG_INDEX_SCALE"), (0, u "I"), (2, u "U"), (0, u "Ljdk/internal/misc/Unsafe;"), (8, u "BIG_ENDIAN"), (0, u "Z"), (8, u "LOG2_BYTE_BIT_SIZE"), (4, u "LOG2_ARRAY_INT_INDEX_SCALE"), (54, u "JLA"), (0, u "Ljdk/internal/access/JavaLangAccess;"), (11, u "LOG2_ARRAY_BOOLEAN_INDEX_SCALE"), (9, u "LOG2_ARRAY_BYTE_INDEX_SCALE"), (5, u "LOG2_ARRAY_CHAR_INDEX_SCALE"), (5, u "LOG2_ARRAY_SHORT_INDEX_SCALE"), (18, u "LOG2_ARRAY_FLOAT_INDEX_SCALE"), (24, u "LOG2_ARRAY_DOUBLE_INDEX_SCALE"), (6, .methodref 195 196), (0, .class_ 197), (0, .nameAndType 198 199), (0, u "java/lang/Math"), (0, u "max"), (0, u "(II)I"), (0, .integer 2147483639), (76, u "T_BOOLEAN"), (2, u "T_CHAR"), (1, u "T_FLOAT"), (1, u "T_DOUBLE"), (1, u "T_BYTE"), (1, u "T_SHORT"), (1, u "T_INT"), (1, u "T_LONG"), (1, u "SOFT_MAX_ARRAY_LENGTH"), (56, u "newLength"), (0, u "(III)I")] 25

def k15m0 : Method := { name := "<init>", desc := "()V", sig := { parameters := [], returnType := none }, accessFlags := 2, code := none }
def k15c1 : Code := { maxStack := 3, maxLocals := 4, code := jdk_48_method_27_code, exceptionTable := #[], attributes := #[] }
def k15m1 : Method := { name := "newLength", desc := "(III)I", sig := { parameters := [.int, .int, .int], returnType := some .int }, accessFlags := 9, code := some k15c1 }
/-- jdk/internal/util/ArraysSupport -/
def k15 : Class := { plain "jdk/internal/util/ArraysSupport" (some 0) with
  accessFlags := 33
  interfaces := #[]
  cf := some (fileOf pool15 21 #[] #[{ accessFlags := 2, nameIndex := 9, descriptorIndex := 19, attributes := #[] }, { accessFlags := 9, nameIndex := 351, descriptorIndex := 352, attributes := #[] }] 33 16 #[] #[{ accessFlags := 24, nameIndex := 28, descriptorIndex := 29, attributes := #[] }, { accessFlags := 26, nameIndex := 38, descriptorIndex := 39, attributes := #[] }, { accessFlags := 25, nameIndex := 121, descriptorIndex := 25, attributes := #[] }, { accessFlags := 25, nameIndex := 131, descriptorIndex := 25, attributes := #[] }, { accessFlags := 25, nameIndex := 137, descriptorIndex := 25, attributes := #[] }, { accessFlags := 25, nameIndex := 143, descriptorIndex := 25, attributes := #[] }, { accessFlags := 25, nameIndex := 53, descriptorIndex := 25, attributes := #[] }, { accessFlags := 25, nameIndex := 24, descriptorIndex := 25, attributes := #[] }, { accessFlags := 25, nameIndex := 162, descriptorIndex := 25, attributes := #[] }, { accessFlags := 25, nameIndex := 187, descriptorIndex := 25, attributes := #[] }, { accessFlags := 26, nameIndex := 48, descriptorIndex := 25, attributes := #[] }, { accessFlags := 25, nameIndex := 277, descriptorIndex := 25, attributes := #[] }, { accessFlags := 25, nameIndex := 280, descriptorIndex := 25, attributes := #[] }, { accessFlags := 25, nameIndex := 282, descriptorIndex := 25, attributes := #[] }, { accessFlags := 25, nameIndex := 284, descriptorIndex := 25, attributes := #[] }, { accessFlags := 25, nameIndex := 286, descriptorIndex := 25, attributes := #[] }, { accessFlags := 25, nameIndex := 288, descriptorIndex := 25, attributes := #[] }, { accessFlags := 25, nameIndex := 290, descriptorIndex := 25, attributes := #[] }, { accessFlags := 25, nameIndex := 292, descriptorIndex := 25, attributes := #[] }, { accessFlags := 26, nameIndex := 108, descriptorIndex := 109, attributes := #[] }, { accessFlags := 25, nameIndex := 294, descriptorIndex := 25, attributes := #[] }])
  fields := #[{ name := "U", type := (.object "jdk/internal/misc/Unsafe"), accessFlags := 24, slot := 0, constantValue := 0 }, { name := "BIG_ENDIAN", type := .boolean, accessFlags := 26, slot := 1, constantValue := 0 }, { name := "LOG2_ARRAY_BOOLEAN_INDEX_SCALE", type := .int, accessFlags := 25, slot := 2, constantValue := 0 }, { name := "LOG2_ARRAY_BYTE_INDEX_SCALE", type := .int, accessFlags := 25, slot := 3, constantValue := 0 }, { name := "LOG2_ARRAY_CHAR_INDEX_SCALE", type := .int, accessFlags := 25, slot := 4, constantValue := 0 }, { name := "LOG2_ARRAY_SHORT_INDEX_SCALE", type := .int, accessFlags := 25, slot := 5, constantValue := 0 }, { name := "LOG2_ARRAY_INT_INDEX_SCALE", type := .int, accessFlags := 25, slot := 6, constantValue := 0 }, { name := "LOG2_ARRAY_LONG_INDEX_SCALE", type := .int, accessFlags := 25, slot := 7, constantValue := 0 }, { name := "LOG2_ARRAY_FLOAT_INDEX_SCALE", type := .int, accessFlags := 25, slot := 8, constantValue := 0 }, { name := "LOG2_ARRAY_DOUBLE_INDEX_SCALE", type := .int, accessFlags := 25, slot := 9, constantValue := 0 }, { name := "LOG2_BYTE_BIT_SIZE", type := .int, accessFlags := 26, slot := 10, constantValue := 0 }, { name := "T_BOOLEAN", type := .int, accessFlags := 25, slot := 11, constantValue := 0 }, { name := "T_CHAR", type := .int, accessFlags := 25, slot := 12, constantValue := 0 }, { name := "T_FLOAT", type := .int, accessFlags := 25, slot := 13, constantValue := 0 }, { name := "T_DOUBLE", type := .int, accessFlags := 25, slot := 14, constantValue := 0 }, { name := "T_BYTE", type := .int, accessFlags := 25, slot := 15, constantValue := 0 }, { name := "T_SHORT", type := .int, accessFlags := 25, slot := 16, constantValue := 0 }, { name := "T_INT", type := .int, accessFlags := 25, slot := 17, constantValue := 0 }, { name := "T_LONG", type := .int, accessFlags := 25, slot := 18, constantValue := 0 }, { name := "JLA", type := (.object "jdk/internal/access/JavaLangAccess"), accessFlags := 26, slot := 19, constantValue := 0 }, { name := "SOFT_MAX_ARRAY_LENGTH", type := .int, accessFlags := 25, slot := 20, constantValue := 0 }]
  methods := #[k15m0, k15m1]
  instanceTypes := #[]
  staticTypes := #[(.object "jdk/internal/misc/Unsafe"), .boolean, .int, .int, .int, .int, .int, .int, .int, .int, .int, .int, .int, .int, .int, .int, .int, .int, .int, (.object "jdk/internal/access/JavaLangAccess"), .int]
  resolved := Array.replicate 378 none
  statics := none }

def pool16 : Array CpInfo := pool [(2, .class_ 4), (1, u "java/lang/Object"), (0, u "<init>"), (0, u "()V"), (7, .class_ 16), (1, u "java/util/Arrays"), (57, .class_ 76), (1, u "java/util/Arrays$NaturalOrder"), (36, .class_ 115), (1, u "java/util/Arrays$LegacyMergeSort"), (1, u "Z"), (21, u "copyOfRange"), (10, .methodref 151 152), (0, .class_ 153), (0, .nameAndType 154 155), (0, u "java/lang/System"), (0, u "arraycopy"), (0, u "(Ljava/lang/Object;ILjava/lang/Object;II)V"), (146, u "copyOf"), (1, .methodref 305 306), (0, .class_ 307), (0, .nameAndType 308 309), (0, u "java/lang/Math"), (0, u "min"), (0, u "(II)I"), (29, .methodref 14 340), (0, .nameAndType 341 342), (0, u "copyOfRangeByte"), (0, u "([BII)[B"), (0, .methodref 14 344), (0, .nameAndType 345 346), (0, u "checkLength"), (0, u "(II)V"), (28, .class_ 376), (0, u "java/util/Arrays$ArrayList"), (68, u "$assertionsDisabled"), (269, u "MIN_ARRAY_SORT_GRAN"), (0, u "I"), (2, u "INSERTIONSORT_THRESHOLD"), (149, u "([BI)[B"), (105, .class_ 976), (0, u "java/util/Arrays$ArrayItr")] 52

def k16m0 : Method := { name := "<init>", desc := "()V", sig := { parameters := [], returnType := none }, accessFlags := 2, code := none }
def k16c1 : Code := { maxStack := 6, maxLocals := 3, code := jdk_65_method_121_code, exceptionTable := #[], attributes := #[] }
def k16m1 : Method := { name := "copyOf", desc := "([BI)[B", sig := { parameters := [(.array .byte), .int], returnType := some (.array .byte) }, accessFlags := 9, code := some k16c1 }
def k16c2 : Code := { maxStack := 4, maxLocals := 2, code := jdk_65_method_131_code, exceptionTable := #[], attributes := #[] }
def k16m2 : Method := { name := "checkLength", desc := "(II)V", sig := { parameters := [.int, .int], returnType := none }, accessFlags := 10, code := some k16c2 }
def k16c3 : Code := { maxStack := 3, maxLocals := 3, code := jdk_65_method_132_code, exceptionTable := #[], attributes := #[] }
def k16m3 : Method := { name := "copyOfRange", desc := "([BII)[B", sig := { parameters := [(.array .byte), .int, .int], returnType := some (.array .byte) }, accessFlags := 9, code := some k16c3 }
def k16c4 : Code := { maxStack := 6, maxLocals := 5, code := jdk_65_method_133_code, exceptionTable := #[], attributes := #[] }
def k16m4 : Method := { name := "copyOfRangeByte", desc := "([BII)[B", sig := { parameters := [(.array .byte), .int, .int], returnType := some (.array .byte) }, accessFlags := 10, code := some k16c4 }
/-- java/util/Arrays -/
def k16 : Class := { plain "java/util/Arrays" (some 0) with
  accessFlags := 49
  interfaces := #[]
  cf := some (fileOf pool16 14 #[.nestMembers #[975, 375, 113, 74]] #[{ accessFlags := 2, nameIndex := 5, descriptorIndex := 6, attributes := #[] }, { accessFlags := 9, nameIndex := 302, descriptorIndex := 869, attributes := #[] }, { accessFlags := 10, nameIndex := 345, descriptorIndex := 346, attributes := #[] }, { accessFlags := 9, nameIndex := 139, descriptorIndex := 342, attributes := #[] }, { accessFlags := 10, nameIndex := 341, descriptorIndex := 342, attributes := #[] }] 49 2 #[] #[{ accessFlags := 26, nameIndex := 715, descriptorIndex := 716, attributes := #[] }, { accessFlags := 26, nameIndex := 719, descriptorIndex := 716, attributes := #[] }, { accessFlags := 4120, nameIndex := 445, descriptorIndex := 117, attributes := #[] }])
  fields := #[{ name := "MIN_ARRAY_SORT_GRAN", type := .int, accessFlags := 26, slot := 0, constantValue := 0 }, { name := "INSERTIONSORT_THRESHOLD", type := .int, accessFlags := 26, slot := 1, constantValue := 0 }, { name := "$assertionsDisabled", type := .boolean, accessFlags := 4120, slot := 2, constantValue := 0 }]
  methods := #[k16m0, k16m1, k16m2, k16m3, k16m4]
  instanceTypes := #[]
  staticTypes := #[.int, .int, .boolean]
  resolved := Array.replicate 1029 none
  statics := none }

def pool17 : Array CpInfo := pool [(2, .class_ 4), (1, u "java/lang/Object"), (0, u "<init>"), (0, u "()V"), (12, .class_ 21), (1, u "com/example/tidegrid/tidegrid/GreatCircle"), (16, .double 4640537203540230144), (3, .double 13863909240395005952), (1, .double 4636033603912859648), (28, .double 13859405640767635456), (24, u "EARTH_RADIUS_M"), (0, u "D"), (3, u "BOUND_SLACK_M"), (6, u "requireLatitude"), (0, u "(DLjava/lang/String;)V"), (0, u "requireLongitude")] 2

def k17m0 : Method := { name := "<init>", desc := "()V", sig := { parameters := [], returnType := none }, accessFlags := 2, code := none }
def k17c1 : Code := { maxStack := 5, maxLocals := 3, code := prog_49_method_7_code, exceptionTable := #[], attributes := #[] }
def k17m1 : Method := { name := "requireLatitude", desc := "(DLjava/lang/String;)V", sig := { parameters := [.double, (.object "java/lang/String")], returnType := none }, accessFlags := 8, code := some k17c1 }
def k17c2 : Code := { maxStack := 5, maxLocals := 3, code := prog_49_method_8_code, exceptionTable := #[], attributes := #[] }
def k17m2 : Method := { name := "requireLongitude", desc := "(DLjava/lang/String;)V", sig := { parameters := [.double, (.object "java/lang/String")], returnType := none }, accessFlags := 8, code := some k17c2 }
/-- com/example/tidegrid/tidegrid/GreatCircle -/
def k17 : Class := { plain "com/example/tidegrid/tidegrid/GreatCircle" (some 0) with
  accessFlags := 49
  interfaces := #[]
  cf := some (fileOf pool17 19 #[] #[{ accessFlags := 2, nameIndex := 5, descriptorIndex := 6, attributes := #[] }, { accessFlags := 8, nameIndex := 110, descriptorIndex := 111, attributes := #[] }, { accessFlags := 8, nameIndex := 112, descriptorIndex := 111, attributes := #[] }] 49 2 #[] #[{ accessFlags := 25, nameIndex := 98, descriptorIndex := 99, attributes := #[] }, { accessFlags := 24, nameIndex := 103, descriptorIndex := 99, attributes := #[] }])
  fields := #[{ name := "EARTH_RADIUS_M", type := .double, accessFlags := 25, slot := 0, constantValue := 0 }, { name := "BOUND_SLACK_M", type := .double, accessFlags := 24, slot := 1, constantValue := 0 }]
  methods := #[k17m0, k17m1, k17m2]
  instanceTypes := #[]
  staticTypes := #[.double, .double]
  resolved := Array.replicate 115 none
  statics := none }

def pool18 : Array CpInfo := pool [(4, .class_ 6), (1, u "java/lang/Object"), (0, u "<init>"), (0, u "()V"), (5, .class_ 16), (1, u "java/lang/StringLatin1"), (104, u "$assertionsDisabled"), (0, u "Z"), (98, .class_ 223), (1, u "java/lang/StringLatin1$LinesSpliterator"), (166, .class_ 391), (0, u "java/lang/StringLatin1$CharsSpliterator")] 3

def k18m0 : Method := { name := "<init>", desc := "()V", sig := { parameters := [], returnType := none }, accessFlags := 0, code := none }
/-- java/lang/StringLatin1 -/
def k18 : Class := { plain "java/lang/StringLatin1" (some 0) with
  accessFlags := 48
  interfaces := #[]
  cf := some (fileOf pool18 14 #[.nestMembers #[390, 221]] #[{ accessFlags := 0, nameIndex := 7, descriptorIndex := 8, attributes := #[] }] 48 4 #[] #[{ accessFlags := 4120, nameIndex := 121, descriptorIndex := 122, attributes := #[] }])
  fields := #[{ name := "$assertionsDisabled", type := .boolean, accessFlags := 4120, slot := 0, constantValue := 0 }]
  methods := #[k18m0]
  instanceTypes := #[]
  staticTypes := #[.boolean]
  resolved := Array.replicate 395 none
  statics := none }

def pool19 : Array CpInfo := pool [(2, .class_ 4), (1, u "java/lang/Object"), (0, u "<init>"), (0, u "()V"), (17, .class_ 26), (1, u "jdk/internal/util/Preconditions"), (28, .class_ 56), (0, u "jdk/internal/util/Preconditions$4"), (57, .class_ 115), (0, u "jdk/internal/util/Preconditions$1"), (7, u "SIOOBE_FORMATTER"), (0, u "Ljava/util/function/BiFunction;"), (0, .class_ 126), (0, u "jdk/internal/util/Preconditions$2"), (3, u "AIOOBE_FORMATTER"), (0, .class_ 132), (0, u "jdk/internal/util/Preconditions$3"), (3, u "IOOBE_FORMATTER")] 57

def k19m0 : Method := { name := "<init>", desc := "()V", sig := { parameters := [], returnType := none }, accessFlags := 1, code := none }
/-- jdk/internal/util/Preconditions -/
def k19 : Class := { plain "jdk/internal/util/Preconditions" (some 0) with
  accessFlags := 33
  interfaces := #[]
  cf := some (fileOf pool19 24 #[.nestMembers #[55, 131, 125, 114]] #[{ accessFlags := 1, nameIndex := 5, descriptorIndex := 6, attributes := #[] }] 33 2 #[] #[{ accessFlags := 25, nameIndex := 123, descriptorIndex := 124, attributes := #[] }, { accessFlags := 25, nameIndex := 130, descriptorIndex := 124, attributes := #[] }, { accessFlags := 25, nameIndex := 136, descriptorIndex := 124, attributes := #[] }])
  fields := #[{ name := "SIOOBE_FORMATTER", type := (.object "java/util/function/BiFunction"), accessFlags := 25, slot := 0, constantValue := 0 }, { name := "AIOOBE_FORMATTER", type := (.object "java/util/function/BiFunction"), accessFlags := 25, slot := 1, constantValue := 0 }, { name := "IOOBE_FORMATTER", type := (.object "java/util/function/BiFunction"), accessFlags := 25, slot := 2, constantValue := 0 }]
  methods := #[k19m0]
  instanceTypes := #[]
  staticTypes := #[(.object "java/util/function/BiFunction"), (.object "java/util/function/BiFunction"), (.object "java/util/function/BiFunction")]
  resolved := Array.replicate 194 none
  statics := some 1 }

def pool20 : Array CpInfo := pool [(1, u "java/lang/Cloneable"), (0, .class_ 1), (0, u "java/lang/Object"), (0, .class_ 3)] 3

/-- java/lang/Cloneable -/
def k20 : Class := { plain "java/lang/Cloneable" (some 0) with
  accessFlags := 1537
  interfaces := #[]
  cf := some (fileOf pool20 2 #[] #[] 1537 4 #[] #[])
  fields := #[]
  methods := #[]
  instanceTypes := #[]
  staticTypes := #[]
  resolved := Array.replicate 8 none
  statics := none }

/-- the primitive byte -/
def k21 : Class := { plain "byte" none with kind := .primitive 'B', accessFlags := 0x411 }
/-- [B -/
def k22 : Class := { plain "[B" (some 0) with kind := .array 21 .byte, interfaces := #[20, 5], accessFlags := 1041 }

/-- the primitive int -/
def k23 : Class := { plain "int" none with kind := .primitive 'I', accessFlags := 0x411 }
/-- [I -/
def k24 : Class := { plain "[I" (some 0) with kind := .array 23 .int, interfaces := #[20, 5], accessFlags := 1041 }

def heap : Heap := #[{ cls := 10, slots := #[.long 0, .int 1, .null, .int 0, .null, .int 0, .int 0], vm := .statics 10 },
  { cls := 19, slots := #[.null, .null, .null], vm := .statics 19 }]
def classes : Array Class := #[k0, k1, k2, k3, k4, k5, k6, k7, k8, k9, k10, k11, k12, k13, k14, k15, k16, k17, k18, k19, k20, k21, k22, k23, k24]
def interned : List (Array UInt16 × Addr) := []
def slotsUsed : Nat := 10
def theMethod : MethodId := ⟨1, 1⟩
def args0 : Array Value := #[.int 5, .int 7, .int 11, .int 13, .int 3, .int 4]
def aboutOver (below : List Frame) : State where
  vm := { classes := classes, interned := interned.toArray }
  heap := heap
  slotsUsed := slotsUsed
  threads := #[{ frames := .invoking theMethod args0 :: below }]
def below0 : List Frame := [.native { method := ⟨0, 0⟩, args := #[] }]
def about1 : State := aboutOver below0
def p0 : Program := .bare "" "" ""
def e0 : Env := launch0.env 0 0 0
theorem w_frames : about1.frames = Frame.invoking theMethod args0 :: below0 := rfl
set_option maxRecDepth 65536 in
theorem w_args : argsFit about1.vm theMethod args0 = true := by decide +kernel
set_option maxRecDepth 65536 in
theorem w_heap : heapFits about1 = true := by decide +kernel
set_option maxRecDepth 65536 in
theorem w_runnable : about1.curStatus? = some .runnable := by decide +kernel
set_option maxRecDepth 65536 in
theorem w_alone : about1.alone = true := by decide +kernel
set_option maxRecDepth 65536 in
theorem w_named : about1.methodNamed? x = some theMethod := by decide +kernel
set_option maxRecDepth 65536 in
theorem w_hears : about1.hears theMethod below0 = true := by decide +kernel
set_option maxRecDepth 65536 in
theorem w_ripe : about1.ripe theMethod args0 below0 = true := by decide +kernel
theorem w_running : about1.status = .running := rfl
set_option maxRecDepth 65536 in
theorem w_room : about1.hasRoom e0.platform room_1 = true :=
  launch0.hasRoom_least _ room_1 (by decide +kernel) (by decide +kernel) (by decide +kernel) (by decide +kernel) (by decide +kernel) (by decide +kernel)
theorem allAtoms_all (ts : List Jvm.Cond) (a : Array Jvm.Value) (st : Jvm.State) : (allAtoms ts).before a st = ts.all (fun c => c.before a st) := by
  induction ts with
  | nil => rfl
  | cons c t ih =>
    show (Jvm.Cond.and c (allAtoms t)).before a st = _
    rw [Jvm.Cond.before_and, ih, List.all_cons]
def words1 : List Jvm.Cond := Jvm.Cond.code x code maxLocals ret :: tables_1
/-- a 'code' word, met by the world's own term for the bytes: nothing is compared byte by byte -/
theorem code_word {y : MethodName} {bytes : ByteArray} {mx : Nat} {rt : Option FieldType} {a : Array Value} {s : State} {m : MethodId} {meth : Method} {c : Code} (h1 : s.methodNamed? y = some m) (h2 : s.vm.method? m = some meth) (h3 : meth.code = some c) (h4 : c.code = bytes)
    (h5 : (c.maxLocals == mx && c.exceptionTable.isEmpty && decide (c.maxStack ≤ mostOperands) && decide (meth.sig.returnType = rt) && !meth.locks && decide (parseMethodDescriptor y.desc = some meth.sig)) = true) : (Jvm.Cond.code y bytes mx rt).before a s = true := by
  simp only [Bool.and_eq_true, beq_iff_eq, Bool.not_eq_true', decide_eq_true_eq] at h5
  obtain ⟨⟨⟨⟨⟨g1, g2⟩, g3⟩, g4⟩, g5⟩, g6⟩ := h5
  simp [Cond.before, Cond.holds, Cond.value, h1, h2, h3, h4, g1, g2, g3, g4, g5, g6]
def isCode : Jvm.Cond → Bool
  | .code _ _ _ _ => true
  | _ => false
theorem all_split {L : List Jvm.Cond} {P : Jvm.Cond → Bool} (h1 : L.all (fun c => isCode c || P c) = true) (h2 : ∀ c ∈ L.filter isCode, P c = true) : L.all P = true := by
  refine List.all_eq_true.mpr fun c hc => ?_
  have h := List.all_eq_true.mp h1 c hc
  rcases Bool.eq_false_or_eq_true (isCode c) with hi | hi
  · exact h2 c (List.mem_filter.mpr ⟨hc, hi⟩)
  · simpa [hi] using h
set_option maxRecDepth 65536 in
theorem w_c0 : (Jvm.Cond.code x code maxLocals ret).before args0 about1 = true := code_word (m := ⟨1, 1⟩) (meth := k1m1) (c := k1c1) (by decide +kernel) rfl rfl rfl (by decide +kernel)
set_option maxRecDepth 65536 in
theorem w_c1 : (Jvm.Cond.code ({ cls := "java/lang/Math", name := "min", desc := "(II)I" } : Jvm.MethodName) jdk_29_method_69_code (2 : Nat) (Option.some Jvm.ClassFile.FieldType.int)).before args0 about1 = true := code_word (m := ⟨2, 2⟩) (meth := k2m2) (c := k2c2) (by decide +kernel) rfl rfl rfl (by decide +kernel)
set_option maxRecDepth 65536 in
theorem w_c2 : (Jvm.Cond.code ({ cls := "java/lang/Math", name := "max", desc := "(II)I" } : Jvm.MethodName) jdk_29_method_65_code (2 : Nat) (Option.some Jvm.ClassFile.FieldType.int)).before args0 about1 = true := code_word (m := ⟨2, 1⟩) (meth := k2m1) (c := k2c1) (by decide +kernel) rfl rfl rfl (by decide +kernel)
set_option maxRecDepth 65536 in
theorem w_c3 : (Jvm.Cond.code ({ cls := "com/example/tidegrid/tidegrid/Box", name := "<init>", desc := "(DDDD)V" } : Jvm.MethodName) prog_17_method_1_code (9 : Nat) (Option.none : Option Jvm.ClassFile.FieldType)).before args0 about1 = true := code_word (m := ⟨4, 0⟩) (meth := k4m0) (c := k4c0) (by decide +kernel) rfl rfl rfl (by decide +kernel)
set_option maxRecDepth 65536 in
theorem w_c4 : (Jvm.Cond.code ({ cls := "java/lang/Record", name := "<init>", desc := "()V" } : Jvm.MethodName) jdk_30_method_1_code (1 : Nat) (Option.none : Option Jvm.ClassFile.FieldType)).before args0 about1 = true := code_word (m := ⟨3, 0⟩) (meth := k3m0) (c := k3c0) (by decide +kernel) rfl rfl rfl (by decide +kernel)
set_option maxRecDepth 65536 in
theorem w_c5 : (Jvm.Cond.code ({ cls := "java/lang/Object", name := "<init>", desc := "()V" } : Jvm.MethodName) object_method_1_code (1 : Nat) (Option.none : Option Jvm.ClassFile.FieldType)).before args0 about1 = true := code_word (m := ⟨0, 0⟩) (meth := k0m0) (c := k0c0) (by decide +kernel) rfl rfl rfl (by decide +kernel)
set_option maxRecDepth 65536 in
theorem w_c6 : (Jvm.Cond.code ({ cls := "com/example/tidegrid/tidegrid/Box", name := "requireEdges", desc := "(DDDDLjava/lang/String;)V" } : Jvm.MethodName) prog_17_method_2_code (9 : Nat) (Option.none : Option Jvm.ClassFile.FieldType)).before args0 about1 = true := code_word (m := ⟨4, 1⟩) (meth := k4m1) (c := k4c1) (by decide +kernel) rfl rfl rfl (by decide +kernel)
set_option maxRecDepth 65536 in
theorem w_c7 : (Jvm.Cond.code ({ cls := "java/lang/StringBuilder", name := "<init>", desc := "()V" } : Jvm.MethodName) jdk_67_method_1_code (1 : Nat) (Option.none : Option Jvm.ClassFile.FieldType)).before args0 about1 = true := code_word (m := ⟨13, 0⟩) (meth := k13m0) (c := k13c0) (by decide +kernel) rfl rfl rfl (by decide +kernel)
set_option maxRecDepth 65536 in
theorem w_c8 : (Jvm.Cond.code ({ cls := "java/lang/AbstractStringBuilder", name := "<init>", desc := "(I)V" } : Jvm.MethodName) jdk_68_method_2_code (2 : Nat) (Option.none : Option Jvm.ClassFile.FieldType)).before args0 about1 = true := code_word (m := ⟨12, 1⟩) (meth := k12m1) (c := k12c1) (by decide +kernel) rfl rfl rfl (by decide +kernel)
set_option maxRecDepth 65536 in
theorem w_c9 : (Jvm.Cond.code ({ cls := "java/lang/StringBuilder", name := "append", desc := "(Ljava/lang/String;)Ljava/lang/StringBuilder;" } : Jvm.MethodName) jdk_67_method_7_code (2 : Nat) (Option.some (Jvm.ClassFile.FieldType.object "java/lang/StringBuilder"))).before args0 about1 = true := code_word (m := ⟨13, 1⟩) (meth := k13m1) (c := k13c1) (by decide +kernel) rfl rfl rfl (by decide +kernel)
set_option maxRecDepth 65536 in
theorem w_c10 : (Jvm.Cond.code ({ cls := "java/lang/AbstractStringBuilder", name := "append", desc := "(Ljava/lang/String;)Ljava/lang/AbstractStringBuilder;" } : Jvm.MethodName) jdk_68_method_22_code (3 : Nat) (Option.some (Jvm.ClassFile.FieldType.object "java/lang/AbstractStringBuilder"))).before args0 about1 = true := code_word (m := ⟨12, 5⟩) (meth := k12m5) (c := k12c5) (by decide +kernel) rfl rfl rfl (by decide +kernel)
set_option maxRecDepth 65536 in
theorem w_c11 : (Jvm.Cond.code ({ cls := "java/lang/String", name := "length", desc := "()I" } : Jvm.MethodName) jdk_42_method_54_code (1 : Nat) (Option.some Jvm.ClassFile.FieldType.int)).before args0 about1 = true := code_word (m := ⟨10, 2⟩) (meth := k10m2) (c := k10c2) (by decide +kernel) rfl rfl rfl (by decide +kernel)
set_option maxRecDepth 65536 in
theorem w_c12 : (Jvm.Cond.code ({ cls := "java/lang/String", name := "coder", desc := "()B" } : Jvm.MethodName) jdk_42_method_152_code (1 : Nat) (Option.some Jvm.ClassFile.FieldType.byte)).before args0 about1 = true := code_word (m := ⟨10, 5⟩) (meth := k10m5) (c := k10c5) (by decide +kernel) rfl rfl rfl (by decide +kernel)
set_option maxRecDepth 65536 in
theorem w_c13 : (Jvm.Cond.code ({ cls := "java/lang/AbstractStringBuilder", name := "ensureCapacityInternal", desc := "(I)V" } : Jvm.MethodName) jdk_68_method_9_code (3 : Nat) (Option.none : Option Jvm.ClassFile.FieldType)).before args0 about1 = true := code_word (m := ⟨12, 3⟩) (meth := k12m3) (c := k12c3) (by decide +kernel) rfl rfl rfl (by decide +kernel)
set_option maxRecDepth 65536 in
theorem w_c14 : (Jvm.Cond.code ({ cls := "java/lang/AbstractStringBuilder", name := "putStringAt", desc := "(ILjava/lang/String;)V" } : Jvm.MethodName) jdk_68_method_73_code (3 : Nat) (Option.none : Option Jvm.ClassFile.FieldType)).before args0 about1 = true := code_word (m := ⟨12, 9⟩) (meth := k12m9) (c := k12c9) (by decide +kernel) rfl rfl rfl (by decide +kernel)
set_option maxRecDepth 65536 in
theorem w_c15 : (Jvm.Cond.code ({ cls := "java/lang/AbstractStringBuilder", name := "inflateIfNeededFor", desc := "(Ljava/lang/String;)V" } : Jvm.MethodName) jdk_68_method_71_code (2 : Nat) (Option.none : Option Jvm.ClassFile.FieldType)).before args0 about1 = true := code_word (m := ⟨12, 8⟩) (meth := k12m8) (c := k12c8) (by decide +kernel) rfl rfl rfl (by decide +kernel)
set_option maxRecDepth 65536 in
theorem w_c16 : (Jvm.Cond.code ({ cls := "java/lang/String", name := "getBytes", desc := "([BIB)V" } : Jvm.MethodName) jdk_42_method_147_code (4 : Nat) (Option.none : Option Jvm.ClassFile.FieldType)).before args0 about1 = true := code_word (m := ⟨10, 3⟩) (meth := k10m3) (c := k10c3) (by decide +kernel) rfl rfl rfl (by decide +kernel)
set_option maxRecDepth 65536 in
theorem w_c17 : (Jvm.Cond.code ({ cls := "java/lang/AbstractStringBuilder", name := "newCapacity", desc := "(I)I" } : Jvm.MethodName) jdk_68_method_10_code (6 : Nat) (Option.some Jvm.ClassFile.FieldType.int)).before args0 about1 = true := code_word (m := ⟨12, 4⟩) (meth := k12m4) (c := k12c4) (by decide +kernel) rfl rfl rfl (by decide +kernel)
set_option maxRecDepth 65536 in
theorem w_c18 : (Jvm.Cond.code ({ cls := "jdk/internal/util/ArraysSupport", name := "newLength", desc := "(III)I" } : Jvm.MethodName) jdk_48_method_27_code (4 : Nat) (Option.some Jvm.ClassFile.FieldType.int)).before args0 about1 = true := code_word (m := ⟨15, 1⟩) (meth := k15m1) (c := k15c1) (by decide +kernel) rfl rfl rfl (by decide +kernel)
set_option maxRecDepth 65536 in
theorem w_c19 : (Jvm.Cond.code ({ cls := "java/util/Arrays", name := "copyOf", desc := "([BI)[B" } : Jvm.MethodName) jdk_65_method_121_code (3 : Nat) (Option.some (Jvm.ClassFile.FieldType.array Jvm.ClassFile.FieldType.byte))).before args0 about1 = true := code_word (m := ⟨16, 1⟩) (meth := k16m1) (c := k16c1) (by decide +kernel) rfl rfl rfl (by decide +kernel)
set_option maxRecDepth 65536 in
theorem w_c20 : (Jvm.Cond.code ({ cls := "java/lang/StringBuilder", name := "toString", desc := "()Ljava/lang/String;" } : Jvm.MethodName) jdk_67_method_42_code (1 : Nat) (Option.some (Jvm.ClassFile.FieldType.object "java/lang/String"))).before args0 about1 = true := code_word (m := ⟨13, 2⟩) (meth := k13m2) (c := k13c2) (by decide +kernel) rfl rfl rfl (by decide +kernel)
set_option maxRecDepth 65536 in
theorem w_c21 : (Jvm.Cond.code ({ cls := "java/lang/String", name := "<init>", desc := "(Ljava/lang/StringBuilder;)V" } : Jvm.MethodName) jdk_42_method_53_code (2 : Nat) (Option.none : Option Jvm.ClassFile.FieldType)).before args0 about1 = true := code_word (m := ⟨10, 1⟩) (meth := k10m1) (c := k10c1) (by decide +kernel) rfl rfl rfl (by decide +kernel)
set_option maxRecDepth 65536 in
theorem w_c22 : (Jvm.Cond.code ({ cls := "java/lang/String", name := "<init>", desc := "(Ljava/lang/AbstractStringBuilder;Ljava/lang/Void;)V" } : Jvm.MethodName) jdk_42_method_150_code (5 : Nat) (Option.none : Option Jvm.ClassFile.FieldType)).before args0 about1 = true := code_word (m := ⟨10, 4⟩) (meth := k10m4) (c := k10c4) (by decide +kernel) rfl rfl rfl (by decide +kernel)
set_option maxRecDepth 65536 in
theorem w_c23 : (Jvm.Cond.code ({ cls := "java/lang/AbstractStringBuilder", name := "getValue", desc := "()[B" } : Jvm.MethodName) jdk_68_method_64_code (1 : Nat) (Option.some (Jvm.ClassFile.FieldType.array Jvm.ClassFile.FieldType.byte))).before args0 about1 = true := code_word (m := ⟨12, 6⟩) (meth := k12m6) (c := k12c6) (by decide +kernel) rfl rfl rfl (by decide +kernel)
set_option maxRecDepth 65536 in
theorem w_c24 : (Jvm.Cond.code ({ cls := "java/lang/StringBuilder", name := "length", desc := "()I" } : Jvm.MethodName) jdk_67_method_93_code (1 : Nat) (Option.some Jvm.ClassFile.FieldType.int)).before args0 about1 = true := code_word (m := ⟨13, 3⟩) (meth := k13m3) (c := k13c3) (by decide +kernel) rfl rfl rfl (by decide +kernel)
set_option maxRecDepth 65536 in
theorem w_c25 : (Jvm.Cond.code ({ cls := "java/lang/AbstractStringBuilder", name := "length", desc := "()I" } : Jvm.MethodName) jdk_68_method_6_code (1 : Nat) (Option.some Jvm.ClassFile.FieldType.int)).before args0 about1 = true := code_word (m := ⟨12, 2⟩) (meth := k12m2) (c := k12c2) (by decide +kernel) rfl rfl rfl (by decide +kernel)
set_option maxRecDepth 65536 in
theorem w_c26 : (Jvm.Cond.code ({ cls := "java/lang/AbstractStringBuilder", name := "isLatin1", desc := "()Z" } : Jvm.MethodName) jdk_68_method_68_code (1 : Nat) (Option.some Jvm.ClassFile.FieldType.boolean)).before args0 about1 = true := code_word (m := ⟨12, 7⟩) (meth := k12m7) (c := k12c7) (by decide +kernel) rfl rfl rfl (by decide +kernel)
set_option maxRecDepth 65536 in
theorem w_c27 : (Jvm.Cond.code ({ cls := "java/util/Arrays", name := "copyOfRange", desc := "([BII)[B" } : Jvm.MethodName) jdk_65_method_132_code (3 : Nat) (Option.some (Jvm.ClassFile.FieldType.array Jvm.ClassFile.FieldType.byte))).before args0 about1 = true := code_word (m := ⟨16, 3⟩) (meth := k16m3) (c := k16c3) (by decide +kernel) rfl rfl rfl (by decide +kernel)
set_option maxRecDepth 65536 in
theorem w_c28 : (Jvm.Cond.code ({ cls := "java/util/Arrays", name := "copyOfRangeByte", desc := "([BII)[B" } : Jvm.MethodName) jdk_65_method_133_code (5 : Nat) (Option.some (Jvm.ClassFile.FieldType.array Jvm.ClassFile.FieldType.byte))).before args0 about1 = true := code_word (m := ⟨16, 4⟩) (meth := k16m4) (c := k16c4) (by decide +kernel) rfl rfl rfl (by decide +kernel)
set_option maxRecDepth 65536 in
theorem w_c29 : (Jvm.Cond.code ({ cls := "java/util/Arrays", name := "checkLength", desc := "(II)V" } : Jvm.MethodName) jdk_65_method_131_code (2 : Nat) (Option.none : Option Jvm.ClassFile.FieldType)).before args0 about1 = true := code_word (m := ⟨16, 2⟩) (meth := k16m2) (c := k16c2) (by decide +kernel) rfl rfl rfl (by decide +kernel)
set_option maxRecDepth 65536 in
theorem w_c30 : (Jvm.Cond.code ({ cls := "com/example/tidegrid/tidegrid/GreatCircle", name := "requireLatitude", desc := "(DLjava/lang/String;)V" } : Jvm.MethodName) prog_49_method_7_code (3 : Nat) (Option.none : Option Jvm.ClassFile.FieldType)).before args0 about1 = true := code_word (m := ⟨17, 1⟩) (meth := k17m1) (c := k17c1) (by decide +kernel) rfl rfl rfl (by decide +kernel)
set_option maxRecDepth 65536 in
theorem w_c31 : (Jvm.Cond.code ({ cls := "com/example/tidegrid/tidegrid/GreatCircle", name := "requireLongitude", desc := "(DLjava/lang/String;)V" } : Jvm.MethodName) prog_49_method_8_code (3 : Nat) (Option.none : Option Jvm.ClassFile.FieldType)).before args0 about1 = true := code_word (m := ⟨17, 2⟩) (meth := k17m2) (c := k17c2) (by decide +kernel) rfl rfl rfl (by decide +kernel)
set_option maxRecDepth 65536 in
theorem w_c32 : (Jvm.Cond.code ({ cls := "com/example/tidegrid/tidegrid/Box", name := "contains", desc := "(DD)Z" } : Jvm.MethodName) prog_17_method_3_code (5 : Nat) (Option.some Jvm.ClassFile.FieldType.boolean)).before args0 about1 = true := code_word (m := ⟨4, 2⟩) (meth := k4m2) (c := k4c2) (by decide +kernel) rfl rfl rfl (by decide +kernel)
def codes1 : List Jvm.Cond := [Jvm.Cond.code x code maxLocals ret, Jvm.Cond.code ({ cls := "java/lang/Math", name := "min", desc := "(II)I" } : Jvm.MethodName) jdk_29_method_69_code (2 : Nat) (Option.some Jvm.ClassFile.FieldType.int), Jvm.Cond.code ({ cls := "java/lang/Math", name := "max", desc := "(II)I" } : Jvm.MethodName) jdk_29_method_65_code (2 : Nat) (Option.some Jvm.ClassFile.FieldType.int), Jvm.Cond.code ({ cls := "com/example/tidegrid/tidegrid/Box", name := "<init>", desc := "(DDDD)V" } : Jvm.MethodName) prog_17_method_1_code (9 : Nat) (Option.none : Option Jvm.ClassFile.FieldType), Jvm.Cond.code ({ cls := "java/lang/Record", name := "<init>", desc := "()V" } : Jvm.MethodName) jdk_30_method_1_code (1 : Nat) (Option.none : Option Jvm.ClassFile.FieldType), Jvm.Cond.code ({ cls := "java/lang/Object", name := "<init>", desc := "()V" } : Jvm.MethodName) object_method_1_code (1 : Nat) (Option.none : Option Jvm.ClassFile.FieldType), Jvm.Cond.code ({ cls := "com/example/tidegrid/tidegrid/Box", name := "requireEdges", desc := "(DDDDLjava/lang/String;)V" } : Jvm.MethodName) prog_17_method_2_code (9 : Nat) (Option.none : Option Jvm.ClassFile.FieldType), Jvm.Cond.code ({ cls := "java/lang/StringBuilder", name := "<init>", desc := "()V" } : Jvm.MethodName) jdk_67_method_1_code (1 : Nat) (Option.none : Option Jvm.ClassFile.FieldType), Jvm.Cond.code ({ cls := "java/lang/AbstractStringBuilder", name := "<init>", desc := "(I)V" } : Jvm.MethodName) jdk_68_method_2_code (2 : Nat) (Option.none : Option Jvm.ClassFile.FieldType), Jvm.Cond.code ({ cls := "java/lang/StringBuilder", name := "append", desc := "(Ljava/lang/String;)Ljava/lang/StringBuilder;" } : Jvm.MethodName) jdk_67_method_7_code (2 : Nat) (Option.some (Jvm.ClassFile.FieldType.object "java/lang/StringBuilder")), Jvm.Cond.code ({ cls := "java/lang/AbstractStringBuilder", name := "append", desc := "(Ljava/lang/String;)Ljava/lang/AbstractStringBuilder;" } : Jvm.MethodName) jdk_68_method_22_code (3 : Nat) (Option.some (Jvm.ClassFile.FieldType.object "java/lang/AbstractStringBuilder")), Jvm.Cond.code ({ cls := "java/lang/String", name := "length", desc := "()I" } : Jvm.MethodName) jdk_42_method_54_code (1 : Nat) (Option.some Jvm.ClassFile.FieldType.int), Jvm.Cond.code ({ cls := "java/lang/String", name := "coder", desc := "()B" } : Jvm.MethodName) jdk_42_method_152_code (1 : Nat) (Option.some Jvm.ClassFile.FieldType.byte), Jvm.Cond.code ({ cls := "java/lang/AbstractStringBuilder", name := "ensureCapacityInternal", desc := "(I)V" } : Jvm.MethodName) jdk_68_method_9_code (3 : Nat) (Option.none : Option Jvm.ClassFile.FieldType), Jvm.Cond.code ({ cls := "java/lang/AbstractStringBuilder", name := "putStringAt", desc := "(ILjava/lang/String;)V" } : Jvm.MethodName) jdk_68_method_73_code (3 : Nat) (Option.none : Option Jvm.ClassFile.FieldType), Jvm.Cond.code ({ cls := "java/lang/AbstractStringBuilder", name := "inflateIfNeededFor", desc := "(Ljava/lang/String;)V" } : Jvm.MethodName) jdk_68_method_71_code (2 : Nat) (Option.none : Option Jvm.ClassFile.FieldType), Jvm.Cond.code ({ cls := "java/lang/String", name := "getBytes", desc := "([BIB)V" } : Jvm.MethodName) jdk_42_method_147_code (4 : Nat) (Option.none : Option Jvm.ClassFile.FieldType), Jvm.Cond.code ({ cls := "java/lang/AbstractStringBuilder", name := "newCapacity", desc := "(I)I" } : Jvm.MethodName) jdk_68_method_10_code (6 : Nat) (Option.some Jvm.ClassFile.FieldType.int), Jvm.Cond.code ({ cls := "jdk/internal/util/ArraysSupport", name := "newLength", desc := "(III)I" } : Jvm.MethodName) jdk_48_method_27_code (4 : Nat) (Option.some Jvm.ClassFile.FieldType.int), Jvm.Cond.code ({ cls := "java/util/Arrays", name := "copyOf", desc := "([BI)[B" } : Jvm.MethodName) jdk_65_method_121_code (3 : Nat) (Option.some (Jvm.ClassFile.FieldType.array Jvm.ClassFile.FieldType.byte)), Jvm.Cond.code ({ cls := "java/lang/StringBuilder", name := "toString", desc := "()Ljava/lang/String;" } : Jvm.MethodName) jdk_67_method_42_code (1 : Nat) (Option.some (Jvm.ClassFile.FieldType.object "java/lang/String")), Jvm.Cond.code ({ cls := "java/lang/String", name := "<init>", desc := "(Ljava/lang/StringBuilder;)V" } : Jvm.MethodName) jdk_42_method_53_code (2 : Nat) (Option.none : Option Jvm.ClassFile.FieldType), Jvm.Cond.code ({ cls := "java/lang/String", name := "<init>", desc := "(Ljava/lang/AbstractStringBuilder;Ljava/lang/Void;)V" } : Jvm.MethodName) jdk_42_method_150_code (5 : Nat) (Option.none : Option Jvm.ClassFile.FieldType), Jvm.Cond.code ({ cls := "java/lang/AbstractStringBuilder", name := "getValue", desc := "()[B" } : Jvm.MethodName) jdk_68_method_64_code (1 : Nat) (Option.some (Jvm.ClassFile.FieldType.array Jvm.ClassFile.FieldType.byte)), Jvm.Cond.code ({ cls := "java/lang/StringBuilder", name := "length", desc := "()I" } : Jvm.MethodName) jdk_67_method_93_code (1 : Nat) (Option.some Jvm.ClassFile.FieldType.int), Jvm.Cond.code ({ cls := "java/lang/AbstractStringBuilder", name := "length", desc := "()I" } : Jvm.MethodName) jdk_68_method_6_code (1 : Nat) (Option.some Jvm.ClassFile.FieldType.int), Jvm.Cond.code ({ cls := "java/lang/AbstractStringBuilder", name := "isLatin1", desc := "()Z" } : Jvm.MethodName) jdk_68_method_68_code (1 : Nat) (Option.some Jvm.ClassFile.FieldType.boolean), Jvm.Cond.code ({ cls := "java/util/Arrays", name := "copyOfRange", desc := "([BII)[B" } : Jvm.MethodName) jdk_65_method_132_code (3 : Nat) (Option.some (Jvm.ClassFile.FieldType.array Jvm.ClassFile.FieldType.byte)), Jvm.Cond.code ({ cls := "java/util/Arrays", name := "copyOfRangeByte", desc := "([BII)[B" } : Jvm.MethodName) jdk_65_method_133_code (5 : Nat) (Option.some (Jvm.ClassFile.FieldType.array Jvm.ClassFile.FieldType.byte)), Jvm.Cond.code ({ cls := "java/util/Arrays", name := "checkLength", desc := "(II)V" } : Jvm.MethodName) jdk_65_method_131_code (2 : Nat) (Option.none : Option Jvm.ClassFile.FieldType), Jvm.Cond.code ({ cls := "com/example/tidegrid/tidegrid/GreatCircle", name := "requireLatitude", desc := "(DLjava/lang/String;)V" } : Jvm.MethodName) prog_49_method_7_code (3 : Nat) (Option.none : Option Jvm.ClassFile.FieldType), Jvm.Cond.code ({ cls := "com/example/tidegrid/tidegrid/GreatCircle", name := "requireLongitude", desc := "(DLjava/lang/String;)V" } : Jvm.MethodName) prog_49_method_8_code (3 : Nat) (Option.none : Option Jvm.ClassFile.FieldType), Jvm.Cond.code ({ cls := "com/example/tidegrid/tidegrid/Box", name := "contains", desc := "(DD)Z" } : Jvm.MethodName) prog_17_method_3_code (5 : Nat) (Option.some Jvm.ClassFile.FieldType.boolean)]
set_option maxRecDepth 65536 in
theorem codes_eq : words1.filter isCode = codes1 := rfl
theorem w_codes : ∀ c ∈ words1.filter isCode, c.before args0 about1 = true := by
  rw [codes_eq]
  intro c hc
  simp only [codes1, List.mem_cons, List.not_mem_nil, or_false] at hc
  rcases hc with rfl | rfl | rfl | rfl | rfl | rfl | rfl | rfl | rfl | rfl | rfl | rfl | rfl | rfl | rfl | rfl | rfl | rfl | rfl | rfl | rfl | rfl | rfl | rfl | rfl | rfl | rfl | rfl | rfl | rfl | rfl | rfl | rfl
  · exact w_c0
  · exact w_c1
  · exact w_c2
  · exact w_c3
  · exact w_c4
  · exact w_c5
  · exact w_c6
  · exact w_c7
  · exact w_c8
  · exact w_c9
  · exact w_c10
  · exact w_c11
  · exact w_c12
  · exact w_c13
  · exact w_c14
  · exact w_c15
  · exact w_c16
  · exact w_c17
  · exact w_c18
  · exact w_c19
  · exact w_c20
  · exact w_c21
  · exact w_c22
  · exact w_c23
  · exact w_c24
  · exact w_c25
  · exact w_c26
  · exact w_c27
  · exact w_c28
  · exact w_c29
  · exact w_c30
  · exact w_c31
  · exact w_c32
set_option maxRecDepth 65536 in
theorem w_t1 : (words1.take 24).all (fun c => isCode c || c.before args0 about1) = true := by decide +kernel
set_option maxRecDepth 65536 in
theorem w_t2 : ((words1.drop 24).take 24).all (fun c => isCode c || c.before args0 about1) = true := by decide +kernel
set_option maxRecDepth 65536 in
theorem w_t3 : (((words1.drop 24).drop 24).take 24).all (fun c => isCode c || c.before args0 about1) = true := by decide +kernel
set_option maxRecDepth 65536 in
theorem w_t4 : ((((words1.drop 24).drop 24).drop 24).take 24).all (fun c => isCode c || c.before args0 about1) = true := by decide +kernel
set_option maxRecDepth 65536 in
theorem w_t5 : (((((words1.drop 24).drop 24).drop 24).drop 24).take 24).all (fun c => isCode c || c.before args0 about1) = true := by decide +kernel
set_option maxRecDepth 65536 in
theorem w_t6 : ((((((words1.drop 24).drop 24).drop 24).drop 24).drop 24).take 24).all (fun c => isCode c || c.before args0 about1) = true := by decide +kernel
set_option maxRecDepth 65536 in
theorem w_t7 : (((((((words1.drop 24).drop 24).drop 24).drop 24).drop 24).drop 24).take 24).all (fun c => isCode c || c.before args0 about1) = true := by decide +kernel
set_option maxRecDepth 65536 in
theorem w_t8 : (((((((words1.drop 24).drop 24).drop 24).drop 24).drop 24).drop 24).drop 24).all (fun c => isCode c || c.before args0 about1) = true := by decide +kernel
theorem w_tables : (allAtoms (Jvm.Cond.code x code maxLocals ret :: tables_1)).before args0 about1 = true := by
  rw [allAtoms_all]
  show words1.all (fun c => c.before args0 about1) = true
  refine all_split ?_ w_codes
  rw [← List.take_append_drop 24 words1, List.all_append, w_t1, ← List.take_append_drop 24 (words1.drop 24), List.all_append, w_t2, ← List.take_append_drop 24 ((words1.drop 24).drop 24), List.all_append, w_t3, ← List.take_append_drop 24 (((words1.drop 24).drop 24).drop 24), List.all_append, w_t4, ← List.take_append_drop 24 ((((words1.drop 24).drop 24).drop 24).drop 24), List.all_append, w_t5, ← List.take_append_drop 24 (((((words1.drop 24).drop 24).drop 24).drop 24).drop 24), List.all_append, w_t6, ← List.take_append_drop 24 ((((((words1.drop 24).drop 24).drop 24).drop 24).drop 24).drop 24), List.all_append, w_t7, w_t8]
  rfl
set_option maxRecDepth 65536 in
theorem w_rest : rest_1_c.before args0 about1 = true := by decide +kernel
set_option maxRecDepth 65536 in
theorem w_case : (Jvm.Cond.and given_1 narrow_1).before args0 about1 = true := by decide +kernel
set_option maxRecDepth 65536 in
theorem w_consts : constsHeld consts_1 about1 := Jvm.Lit.constsHeldB_iff.mp (by decide +kernel)
theorem w_applies : (headSpec (Jvm.Cond.code x code maxLocals ret :: tables_1) room_1).applies x e0.platform about1 = true :=
  (Spec.applies_iff w_frames).mpr ⟨w_running, w_runnable, w_alone, w_named, w_hears, w_ripe, w_room, w_tables⟩
theorem atStart : AtStart classFile x code maxLocals ret World_1 tables_1 room_1 Calls_1 rest_1 Pre_1 launch0 p0 e0 about1 theMethod args0 below0 :=
  ⟨lists_1, trivial, launch0.admits_env _ _ _, launch0.least_env, fairChoices_fair.cas, fairChoices_fair.clock, w_frames, w_args, w_heap, w_applies, ⟨w_consts, trivial⟩, w_rest, w_case⟩
end start1
theorem witness_1 : WitnessClaimed_1 := ⟨start1.p0, start1.e0, start1.about1, start1.theMethod, start1.args0, start1.below0, start1.atStart⟩
end Jvm.Pilot.@@N@@
