import JvmDerived
import JvmDerived.Pilot.@@N@@Statement
import JvmDerived.Pilot.@@N@@Code
set_option linter.unusedVariables false
set_option linter.unusedSimpArgs false
namespace Jvm.OwnKit
open Sem ClassFile Op Lib Jvm.Stand Jvm.Free Jvm.LawKit Jvm.RoadKit
section Core
variable {p : Program} {l : Launch} {e : Env} {R : Room} {s : State} {m : MethodId} {args : Array Value} {below : List Frame} {meth : Method} {c : Code} {T T' : State} {locs : List Loc} {cells slots : Nat} {Z : State} {a0 : Array Value} {h : Heap}
  {Q Q' : Option Value → Heap → List Loc → Prop} {kc ks : Nat} {F : Outcome → State → Prop}
/-- from the frame f over T the body comes to its end, and F holds there -/
def GoG (p : Program) (e : Env) (below : List Frame) (F : Outcome → State → Prop) (T : State) (f : JFrame) : Prop :=
  ∃ t o, Steps p.tables e below (T.setTop f) t ∧ t.status = .running ∧ Ended t below o ∧ F o t
/-- .. Q holds there, and the frame is kept -/
def Fin (s : State) (Q : Option Value → Heap → List Loc → Prop) (kc ks : Nat) : Outcome → State → Prop := fun o t => ∃ v L, o = .returned v ∧ Q v t.heap L ∧ FrameEnd s o t L kc ks
abbrev Go (p : Program) (e : Env) (below : List Frame) (s : State) (Q : Option Value → Heap → List Loc → Prop) (kc ks : Nat) (T : State) (f : JFrame) : Prop := GoG p e below (Fin s Q kc ks) T f
theorem Go.back {f f' : JFrame} (st : ∀ t, Steps p.tables e below (T'.setTop f') t → Steps p.tables e below (T.setTop f) t) (k : GoG p e below F T' f') : GoG p e below F T f := by
  obtain ⟨t, o, h1, h2⟩ := k; exact ⟨t, o, st _ h1, h2⟩
theorem Go.cast {f f' : JFrame} (q : f = f') (k : GoG p e below F T f') : GoG p e below F T f := q ▸ k
theorem Go.imp {f : JFrame} (q : ∀ v h L, Q' v h L → Q v h L) (k : Go p e below s Q' kc ks T f) : Go p e below s Q kc ks T f := by
  obtain ⟨t, o, h1, h2, h3, v, L, h4, h5, h6⟩ := k; exact ⟨t, o, h1, h2, h3, v, L, h4, q _ _ _ h5, h6⟩
theorem Go.done (X : Stand p l e R s m args below meth c T locs cells slots) {v : Option Value} {f0 : JFrame} (hv : meth.sig.returnType = none → v = none) (hlk : meth.locks = false)
    (st : ∀ fs, (∀ (f : JFrame) (acts : List Action), f.method = m → f.locked = none → f.entered = [] → (doReturn e (T.setTop f) acts v).1 = T.setFrames fs) → Steps p.tables e below (T.setTop f0) (T.setFrames fs))
    (hQ : Q v T.heap locs) (hc : cells ≤ kc) (hs : slots ≤ ks) : Go p e below s Q kc ks T f0 := by
  obtain ⟨fs, hr, hrun, hended, hW, hsame⟩ := X.leave (v := v) hv hlk
  exact ⟨_, _, st fs hr, hrun, hended, v, locs, rfl, hQ, ⟨_, rfl⟩, hW, hsame.mono hc hs⟩
theorem Go.retI (X : Stand p l e R s m args below meth c T locs cells slots) (hx : p.tables.exec = Jvm.exec) {pc : Nat} {Ls : Array Slot} {z : Int32} {rest : List Value} (hret : meth.sig.returnType = some .int) (hlk : meth.locks = false) (hd : decode c.code pc = .ok (.ireturn, 1))
    (hQ : Q (some (.int z)) T.heap locs) (hc : cells ≤ kc) (hs : slots ≤ ks) : Go p e below s Q kc ks T (mkF m pc Ls (.int z :: rest)) :=
  Go.done X (fun q => by rw [hret] at q; cases q) hlk (fun _ hl => retOut X hx hret rfl (Or.inl ⟨rfl, Or.inl rfl, z, rfl⟩) hd hl) hQ hc hs
theorem Go.retJ (X : Stand p l e R s m args below meth c T locs cells slots) (hx : p.tables.exec = Jvm.exec) {pc : Nat} {Ls : Array Slot} {z : Int64} {rest : List Value} (hret : meth.sig.returnType = some .long) (hlk : meth.locks = false) (hd : decode c.code pc = .ok (.lreturn, 1))
    (hQ : Q (some (.long z)) T.heap locs) (hc : cells ≤ kc) (hs : slots ≤ ks) : Go p e below s Q kc ks T (mkF m pc Ls (.long z :: rest)) :=
  Go.done X (fun q => by rw [hret] at q; cases q) hlk (fun _ hl => retOut X hx hret rfl (Or.inr (Or.inl ⟨rfl, rfl, z, rfl⟩)) hd hl) hQ hc hs
theorem narrow_ref {t : FieldType} {w : Value} (hw : w.isRef = true) : narrow t w = w := by
  cases w <;> simp [Value.isRef] at hw <;> cases t <;> rfl
theorem Go.retA (X : Stand p l e R s m args below meth c T locs cells slots) (hx : p.tables.exec = Jvm.exec) {pc : Nat} {Ls : Array Slot} {w : Value} {t : FieldType} {rest : List Value} (hret : meth.sig.returnType = some t) (hlk : meth.locks = false) (hd : decode c.code pc = .ok (.areturn, 1)) (ht : t.isReference = true) (hw : w.isRef = true)
    (hQ : Q (some w) T.heap locs) (hc : cells ≤ kc) (hs : slots ≤ ks) : Go p e below s Q kc ks T (mkF m pc Ls (w :: rest)) :=
  Go.done X (fun q => by rw [hret] at q; cases q) hlk (fun _ hl => retOut X hx hret (narrow_ref hw) (Or.inr (Or.inr (Or.inr (Or.inr ⟨rfl, ht, hw⟩)))) hd hl) hQ hc hs
theorem Go.ret0 (X : Stand p l e R s m args below meth c T locs cells slots) (hx : p.tables.exec = Jvm.exec) {pc : Nat} {Ls : Array Slot} (hret : meth.sig.returnType = none) (hlk : meth.locks = false) (hd : decode c.code pc = .ok (.return_, 1))
    (hQ : Q none T.heap locs) (hc : cells ≤ kc) (hs : slots ≤ ks) : Go p e below s Q kc ks T (mkF m pc Ls []) :=
  Go.done X (fun _ => rfl) hlk (fun _ hl => X.returnOut hx hret hd hl) hQ hc hs
theorem Go.retN (X : Stand p l e R s m args below meth c T locs cells slots) (hx : p.tables.exec = Jvm.exec) {pc : Nat} {Ls : Array Slot} {z w : Int32} {t : FieldType} {rest : List Value} (hret : meth.sig.returnType = some t) (ht : t = .boolean ∨ t = .byte ∨ t = .char ∨ t = .short) (hw : nar t z = w) (hlk : meth.locks = false) (hd : decode c.code pc = .ok (.ireturn, 1))
    (hQ : Q (some (.int w)) T.heap locs) (hc : cells ≤ kc) (hs : slots ≤ ks) : Go p e below s Q kc ks T (mkF m pc Ls (.int z :: rest)) :=
  Go.done X (fun q => by rw [hret] at q; cases q) hlk (fun _ hl => Jvm.RoadKit.retN X hx hret ht hd (by rw [hw]; exact hl)) hQ hc hs
theorem nar_bool {z : Int32} (hz : z = 0 ∨ z = 1) : nar .boolean z = z := by rcases hz with rfl | rfl <;> rfl
/-- a body's contract, said of one heap and one array of arguments -/
def Met (l : Launch) (Z : State) (y : MethodName) (bytes : ByteArray) (maxL : Nat) (ret : Option FieldType) (rm : Room) (as' : Array Value) (h : Heap) (Q : Option Value → Heap → List Loc → Prop) : Prop :=
  ∀ ws : List Jvm.Cond, MetFree l y (head1 (Jvm.Cond.code y bytes maxL ret :: ws) rm) (fun a U => a = as' ∧ Z.Warmed39 U.vm ∧ U.heap = h) (fun _ _ _ _ _ => True) (fun _ U o U' => ∃ v L, o = .returned v ∧ Q v U'.heap L ∧ FrameEnd U o U' L rm.cells rm.slots)
variable {y z : MethodName} {bytes : ByteArray} {maxL : Nat} {ret : Option FieldType} {rm : Room} {as' : Array Value}
theorem Met.intro (hp : plainFor y = true) (body : ∀ (p : Program) (e : Env) (s : State) (m : MethodId) (below : List Frame) (meth : Method) (c : Code) (T : State),
      p.tables.exec = Jvm.exec → c.code = bytes → c.maxLocals = maxL → s.vm.findClass y.cls = some m.cls → meth.name = y.name → meth.sig.returnType = ret → meth.locks = false → Z.Warmed39 s.vm →
      Stand p l e rm s m as' below meth c T [] 0 0 → T.heap = h → Go p e below s Q rm.cells rm.slots T (entryFrame m as' maxL)) : Met l Z y bytes maxL ret rm as' h Q := by
  intro ws
  refine MetFree.of_bodySF hp hisR ?_
  intro p e s m args below meth c s₁ Bd hml0 hP hK
  obtain ⟨rfl, hZ, hh⟩ := hP
  exact body p e s m below meth c s₁ Bd.exec Bd.bytes hml0 (findClass_of_methodNamed Bd.named) (name_of_methodNamed Bd.named Bd.method).1 Bd.returns Bd.notSynchronized hZ (Stand.of_body Bd) (by rw [← hh, Bd.state]; rfl)
theorem Met.imp (q : ∀ v h L, Q' v h L → Q v h L) (k : Met l Z y bytes maxL ret rm as' h Q') : Met l Z y bytes maxL ret rm as' h Q := fun ws p e ha hc hk s m args below hf happ hP hK => by
  obtain ⟨n, o, h1, h2, h3, v, L, h4, h5, h6⟩ := k ws p e ha hc hk s m args below hf happ hP hK
  exact ⟨n, o, h1, h2, h3, v, L, h4, q _ _ _ h5, h6⟩
theorem Go.callS (X : Stand p l e R s m args below meth c T locs cells slots) (hx : p.tables.exec = Jvm.exec) (hZ : Z.Warmed39 s.vm) {own : String} {index : Nat} (hown : s.vm.findClass own = some m.cls)
    (w1 : (Jvm.Cond.methodLink own index y).before a0 Z = true) (w2 : (Jvm.Cond.static y).before a0 Z = true) (w3 : (Jvm.Cond.initialized y.cls).before a0 Z = true) (w4 : (Jvm.Cond.code y bytes maxL ret).before a0 Z = true)
    (hy : y.cls ≠ "java/lang/invoke/MethodHandle" ∧ y.cls ≠ "java/lang/invoke/VarHandle") (eT : T.heap = h) {argsL rest st : List Value} (hM : Met l Z y bytes maxL ret rm argsL.toArray h Q')
    (hlen : ∀ sig, parseMethodDescriptor y.desc = some sig → argsL.length = sig.parameters.length) {pc : Nat} {Ls : Array Slot} (hst : st = argsL.reverse ++ rest) (hsz : Ls.size = c.maxLocals) {W : Nat} (hW : 2 * 0 + (rest.map fun v => v.category).sum ≤ W)
    (hd : decode c.code pc = .ok (.invokestatic index, 3)) (hf : rm.frames + 1 ≤ R.frames) (hl : W + (maxL + 11) + rm.locals ≤ R.locals) (hc : cells + rm.cells ≤ R.cells) (hs : slots + rm.slots ≤ R.slots)
    (k : ∀ v T' L, Stand p l e R s m args below meth c T' (locs ++ L) (cells + rm.cells) (slots + rm.slots) → Q' v T'.heap L → GoG p e below F T' (mkF m (pc + 3) Ls (v.toList ++ rest))) :
    GoG p e below F T (mkF m pc Ls st) := by
  subst hst
  obtain ⟨v, _, ⟨T1, L1, k1, n1⟩, -, X1, ⟨Lc, hQ, l1, y1, z1⟩, st1⟩ := Jvm.LawKit.callS X hx (y := y) hown (mvT hZ w1) (mvT hZ w2) (mvT hZ w3) (mvT hZ w4) hy (backOf (W := W) (hM []) hZ w4 w3 hf hl) (g := mkF m pc Ls (argsL.reverse ++ rest)) rfl hsz (argsL := argsL) (rest := rest) hlen rfl hW hd (fun _ _ => ⟨rfl, eT, hc, hs⟩)
  dsimp only [Pt.U, Pt.locs, Pt.cells, Pt.slots] at X1 l1 y1 z1 st1 hQ
  subst l1 y1 z1
  exact Go.back st1 (k v T1 Lc X1 hQ)
theorem Go.callI (X : Stand p l e R s m args below meth c T locs cells slots) (hx : p.tables.exec = Jvm.exec) (hZ : Z.Warmed39 s.vm) {own : String} {index : Nat} (hy1 : y.name = "<init>") (hown : s.vm.findClass own = some m.cls)
    (w1 : (Jvm.Cond.methodLink own index y).before a0 Z = true) (w2 : (Jvm.Cond.instanceMethod y).before a0 Z = true) (w3 : (Jvm.Cond.initialized y.cls).before a0 Z = true) (w4 : (Jvm.Cond.code y bytes maxL none).before a0 Z = true)
    (hy : y.cls ≠ "java/lang/invoke/MethodHandle" ∧ y.cls ≠ "java/lang/invoke/VarHandle") (eT : T.heap = h) {a : Addr} {argsL rest st : List Value} (hM : Met l Z y bytes maxL none rm (.ref a :: argsL).toArray h Q')
    (hlen : ∀ sig, parseMethodDescriptor y.desc = some sig → argsL.length = sig.parameters.length) {pc : Nat} {Ls : Array Slot} (hst : st = argsL.reverse ++ .ref a :: rest) (hsz : Ls.size = c.maxLocals) {W : Nat} (hW : 2 * 0 + (rest.map fun v => v.category).sum ≤ W)
    (hd : decode c.code pc = .ok (.invokespecial index, 3)) (hf : rm.frames + 1 ≤ R.frames) (hl : W + (maxL + 11) + rm.locals ≤ R.locals) (hc : cells + rm.cells ≤ R.cells) (hs : slots + rm.slots ≤ R.slots)
    (k : ∀ v T' L, Stand p l e R s m args below meth c T' (locs ++ L) (cells + rm.cells) (slots + rm.slots) → Q' v T'.heap L → GoG p e below F T' (mkF m (pc + 3) Ls (v.toList ++ rest))) :
    GoG p e below F T (mkF m pc Ls st) := by
  subst hst
  obtain ⟨v, _, ⟨T1, L1, k1, n1⟩, -, X1, ⟨Lc, hQ, l1, y1, z1⟩, st1⟩ := X.specialBack hx (y := y) hy1 hown (mvT hZ w1) (mvT hZ w2) (mvT hZ w4) hy (backOf (W := W) (hM []) hZ w4 w3 hf hl) (g := mkF m pc Ls (argsL.reverse ++ .ref a :: rest)) rfl hsz (Steps.refl _) (a := a) (argsL := argsL) (rest := rest) hlen rfl hW hd (fun _ _ => ⟨rfl, eT, hc, hs⟩)
  dsimp only [Pt.U, Pt.locs, Pt.cells, Pt.slots] at X1 l1 y1 z1 st1 hQ
  subst l1 y1 z1
  exact Go.back (fun _ q => st1.trans q) (k v T1 Lc X1 hQ)
theorem Go.callV (X : Stand p l e R s m args below meth c T locs cells slots) (hx : p.tables.exec = Jvm.exec) (hZ : Z.Warmed39 s.vm) {own C : String} {index : Nat} (hown : s.vm.findClass own = some m.cls)
    (w1 : (Jvm.Cond.methodLink own index y).before a0 Z = true) (w2 : (Jvm.Cond.declares y).before a0 Z = true) (w3 : (Jvm.Cond.selects C y y).before a0 Z = true) (w4 : (Jvm.Cond.instanceMethod y).before a0 Z = true)
    (w5 : (Jvm.Cond.initialized y.cls).before a0 Z = true) (w6 : (Jvm.Cond.code y bytes maxL ret).before a0 Z = true)
    (hy : y.cls ≠ "java/lang/invoke/MethodHandle" ∧ y.cls ≠ "java/lang/invoke/VarHandle") (eT : T.heap = h) {a : Addr} (E : Exa Z h a C) {argsL rest st : List Value} (hM : Met l Z y bytes maxL ret rm (.ref a :: argsL).toArray h Q')
    (hlen : ∀ sig, parseMethodDescriptor y.desc = some sig → argsL.length = sig.parameters.length) {pc : Nat} {Ls : Array Slot} (hst : st = argsL.reverse ++ .ref a :: rest) (hsz : Ls.size = c.maxLocals) {W : Nat} (hW : 2 * 0 + (rest.map fun v => v.category).sum ≤ W)
    (hd : decode c.code pc = .ok (.invokevirtual index, 3)) (hf : rm.frames + 1 ≤ R.frames) (hl : W + (maxL + 11) + rm.locals ≤ R.locals) (hc : cells + rm.cells ≤ R.cells) (hs : slots + rm.slots ≤ R.slots)
    (k : ∀ v T' L, Stand p l e R s m args below meth c T' (locs ++ L) (cells + rm.cells) (slots + rm.slots) → Q' v T'.heap L → GoG p e below F T' (mkF m (pc + 3) Ls (v.toList ++ rest))) :
    GoG p e below F T (mkF m pc Ls st) := by
  subst hst
  obtain ⟨cq, kq, qa, qb, qc⟩ := isOf hZ eT E
  obtain ⟨v, _, ⟨T1, L1, k1, n1⟩, -, X1, ⟨Lc, hQ, l1, y1, z1⟩, st1⟩ := X.virtualBack hx (y := y) (z := y) hown (mvT hZ w1) (mvT hZ w2) (notFace_of_selects (args := #[]) (mvT hZ w3)) (mvT hZ w3) (mvT hZ w4) hy (backOf (W := W) (hM []) hZ w6 w5 hf hl) qa qc (g := mkF m pc Ls (argsL.reverse ++ .ref a :: rest)) rfl hsz (Steps.refl _) (argsL := argsL) (rest := rest) hlen rfl hW hd (fun _ _ => ⟨rfl, eT, hc, hs⟩)
  dsimp only [Pt.U, Pt.locs, Pt.cells, Pt.slots] at X1 l1 y1 z1 st1 hQ
  subst l1 y1 z1
  exact Go.back (fun _ q => st1.trans q) (k v T1 Lc X1 hQ)
end Core
section Cmp
theorem l_lt_t {x y : Int64} (h : x < y) : ifCond.holds .lt (lcmpW x y) = true := (if0 _ _).trans (tlt ((lw_lt x y).mpr h)).1
theorem l_lt_f {x y : Int64} (h : ¬ x < y) : ifCond.holds .lt (lcmpW x y) = false := (if0 _ _).trans (flt (fun q => h ((lw_lt x y).mp q))).1
theorem l_ge_t {x y : Int64} (h : ¬ x < y) : ifCond.holds .ge (lcmpW x y) = true := (if0 _ _).trans (flt (fun q => h ((lw_lt x y).mp q))).2.1
theorem l_ge_f {x y : Int64} (h : x < y) : ifCond.holds .ge (lcmpW x y) = false := (if0 _ _).trans (tlt ((lw_lt x y).mpr h)).2.1
theorem l_gt_t {x y : Int64} (h : y < x) : ifCond.holds .gt (lcmpW x y) = true := (if0 _ _).trans (tlt ((lw_gt x y).mpr h)).2.2.1
theorem l_gt_f {x y : Int64} (h : ¬ y < x) : ifCond.holds .gt (lcmpW x y) = false := (if0 _ _).trans (flt (fun q => h ((lw_gt x y).mp q))).2.2.1
theorem l_le_t {x y : Int64} (h : ¬ y < x) : ifCond.holds .le (lcmpW x y) = true := (if0 _ _).trans (flt (fun q => h ((lw_gt x y).mp q))).2.2.2
theorem l_le_f {x y : Int64} (h : y < x) : ifCond.holds .le (lcmpW x y) = false := (if0 _ _).trans (tlt ((lw_gt x y).mpr h)).2.2.2
theorem l_eq_t {x y : Int64} (h : x = y) : ifCond.holds .eq (lcmpW x y) = true := (if0 _ _).trans (teq ((lw_eq x y).mpr h)).1
theorem l_eq_f {x y : Int64} (h : ¬ x = y) : ifCond.holds .eq (lcmpW x y) = false := (if0 _ _).trans (feq (fun q => h ((lw_eq x y).mp q))).1
theorem l_ne_t {x y : Int64} (h : ¬ x = y) : ifCond.holds .ne (lcmpW x y) = true := (if0 _ _).trans (feq (fun q => h ((lw_eq x y).mp q))).2
theorem l_ne_f {x y : Int64} (h : x = y) : ifCond.holds .ne (lcmpW x y) = false := (if0 _ _).trans (teq ((lw_eq x y).mpr h)).2
end Cmp
end Jvm.OwnKit
namespace Jvm.Pilot.@@N@@
open Jvm Jvm.ClassFile Sem Op Lib Jvm.Free Jvm.Stand Jvm.LawKit Jvm.RoadKit Bundle Jvm.OwnKit Jvm.Pilot.@@N@@.Jvm.D
theorem d1_0 : decode method_2_code 0 = .ok (.iload_n 0, 1) := by decide +kernel
theorem d1_1 : decode method_2_code 1 = .ok (.iconst 1, 1) := by decide +kernel
theorem d1_2 : decode method_2_code 2 = .ok (.if_icmp .lt 13, 3) := by decide +kernel
theorem d1_5 : decode method_2_code 5 = .ok (.iload_n 1, 1) := by decide +kernel
theorem d1_6 : decode method_2_code 6 = .ok (.iconst 1, 1) := by decide +kernel
theorem d1_7 : decode method_2_code 7 = .ok (.if_icmp .lt 8, 3) := by decide +kernel
theorem d1_10 : decode method_2_code 10 = .ok (.iload_n 2, 1) := by decide +kernel
theorem d1_11 : decode method_2_code 11 = .ok (.iconst 1, 1) := by decide +kernel
theorem d1_12 : decode method_2_code 12 = .ok (.if_icmp .ge 5, 3) := by decide +kernel
theorem d1_15 : decode method_2_code 15 = .ok (.iconst 0, 1) := by decide +kernel
theorem d1_16 : decode method_2_code 16 = .ok (.ireturn, 1) := by decide +kernel
theorem d1_17 : decode method_2_code 17 = .ok (.iload_n 1, 1) := by decide +kernel
theorem d1_18 : decode method_2_code 18 = .ok (.i2l, 1) := by decide +kernel
theorem d1_19 : decode method_2_code 19 = .ok (.iload_n 2, 1) := by decide +kernel
theorem d1_20 : decode method_2_code 20 = .ok (.i2l, 1) := by decide +kernel
theorem d1_21 : decode method_2_code 21 = .ok (.lmul, 1) := by decide +kernel
theorem d1_22 : decode method_2_code 22 = .ok (.lstore_n 3, 1) := by decide +kernel
theorem d1_23 : decode method_2_code 23 = .ok (.lload_n 3, 1) := by decide +kernel
theorem d1_24 : decode method_2_code 24 = .ok (.ldc2_w 7, 3) := by decide +kernel
theorem d1_27 : decode method_2_code 27 = .ok (.lcmp, 1) := by decide +kernel
theorem d1_28 : decode method_2_code 28 = .ok (.ifCond .le 5, 3) := by decide +kernel
theorem d1_31 : decode method_2_code 31 = .ok (.iconst 0, 1) := by decide +kernel
theorem d1_32 : decode method_2_code 32 = .ok (.ireturn, 1) := by decide +kernel
theorem d1_33 : decode method_2_code 33 = .ok (.iload_n 0, 1) := by decide +kernel
theorem d1_34 : decode method_2_code 34 = .ok (.i2l, 1) := by decide +kernel
theorem d1_35 : decode method_2_code 35 = .ok (.ldc2_w 9, 3) := by decide +kernel
theorem d1_38 : decode method_2_code 38 = .ok (.lload_n 3, 1) := by decide +kernel
theorem d1_39 : decode method_2_code 39 = .ok (.ldiv, 1) := by decide +kernel
theorem d1_40 : decode method_2_code 40 = .ok (.iload_n 2, 1) := by decide +kernel
theorem d1_41 : decode method_2_code 41 = .ok (.i2l, 1) := by decide +kernel
theorem d1_42 : decode method_2_code 42 = .ok (.ldiv, 1) := by decide +kernel
theorem d1_43 : decode method_2_code 43 = .ok (.lcmp, 1) := by decide +kernel
theorem d1_44 : decode method_2_code 44 = .ok (.ifCond .gt 7, 3) := by decide +kernel
theorem d1_47 : decode method_2_code 47 = .ok (.iconst 1, 1) := by decide +kernel
theorem d1_48 : decode method_2_code 48 = .ok (.goto 4, 3) := by decide +kernel
theorem d1_51 : decode method_2_code 51 = .ok (.iconst 0, 1) := by decide +kernel
theorem d1_52 : decode method_2_code 52 = .ok (.ireturn, 1) := by decide +kernel
theorem d2_0 : decode prog_48_method_5_code 0 = .ok (.iload_n 0, 1) := by decide +kernel
theorem d2_1 : decode prog_48_method_5_code 1 = .ok (.iconst 1, 1) := by decide +kernel
theorem d2_2 : decode prog_48_method_5_code 2 = .ok (.if_icmp .lt 13, 3) := by decide +kernel
theorem d2_5 : decode prog_48_method_5_code 5 = .ok (.iload_n 1, 1) := by decide +kernel
theorem d2_6 : decode prog_48_method_5_code 6 = .ok (.iconst 1, 1) := by decide +kernel
theorem d2_7 : decode prog_48_method_5_code 7 = .ok (.if_icmp .lt 8, 3) := by decide +kernel
theorem d2_10 : decode prog_48_method_5_code 10 = .ok (.iload_n 2, 1) := by decide +kernel
theorem d2_11 : decode prog_48_method_5_code 11 = .ok (.iconst 1, 1) := by decide +kernel
theorem d2_12 : decode prog_48_method_5_code 12 = .ok (.if_icmp .ge 5, 3) := by decide +kernel
theorem d2_15 : decode prog_48_method_5_code 15 = .ok (.iconst 0, 1) := by decide +kernel
theorem d2_16 : decode prog_48_method_5_code 16 = .ok (.ireturn, 1) := by decide +kernel
theorem d2_17 : decode prog_48_method_5_code 17 = .ok (.iload_n 1, 1) := by decide +kernel
theorem d2_18 : decode prog_48_method_5_code 18 = .ok (.i2l, 1) := by decide +kernel
theorem d2_19 : decode prog_48_method_5_code 19 = .ok (.iload_n 2, 1) := by decide +kernel
theorem d2_20 : decode prog_48_method_5_code 20 = .ok (.i2l, 1) := by decide +kernel
theorem d2_21 : decode prog_48_method_5_code 21 = .ok (.lmul, 1) := by decide +kernel
theorem d2_22 : decode prog_48_method_5_code 22 = .ok (.lstore_n 3, 1) := by decide +kernel
theorem d2_23 : decode prog_48_method_5_code 23 = .ok (.iload_n 0, 1) := by decide +kernel
theorem d2_24 : decode prog_48_method_5_code 24 = .ok (.i2l, 1) := by decide +kernel
theorem d2_25 : decode prog_48_method_5_code 25 = .ok (.iload_n 2, 1) := by decide +kernel
theorem d2_26 : decode prog_48_method_5_code 26 = .ok (.i2l, 1) := by decide +kernel
theorem d2_27 : decode prog_48_method_5_code 27 = .ok (.lmul, 1) := by decide +kernel
theorem d2_28 : decode prog_48_method_5_code 28 = .ok (.lstore 5, 2) := by decide +kernel
theorem d2_30 : decode prog_48_method_5_code 30 = .ok (.lload_n 3, 1) := by decide +kernel
theorem d2_31 : decode prog_48_method_5_code 31 = .ok (.ldc2_w 124, 3) := by decide +kernel
theorem d2_34 : decode prog_48_method_5_code 34 = .ok (.lcmp, 1) := by decide +kernel
theorem d2_35 : decode prog_48_method_5_code 35 = .ok (.ifCond .gt 27, 3) := by decide +kernel
theorem d2_38 : decode prog_48_method_5_code 38 = .ok (.lload 5, 2) := by decide +kernel
theorem d2_40 : decode prog_48_method_5_code 40 = .ok (.ldc2_w 126, 3) := by decide +kernel
theorem d2_43 : decode prog_48_method_5_code 43 = .ok (.lcmp, 1) := by decide +kernel
theorem d2_44 : decode prog_48_method_5_code 44 = .ok (.ifCond .gt 18, 3) := by decide +kernel
theorem d2_47 : decode prog_48_method_5_code 47 = .ok (.lload_n 3, 1) := by decide +kernel
theorem d2_48 : decode prog_48_method_5_code 48 = .ok (.lload 5, 2) := by decide +kernel
theorem d2_50 : decode prog_48_method_5_code 50 = .ok (.lmul, 1) := by decide +kernel
theorem d2_51 : decode prog_48_method_5_code 51 = .ok (.ldc2_w 126, 3) := by decide +kernel
theorem d2_54 : decode prog_48_method_5_code 54 = .ok (.lcmp, 1) := by decide +kernel
theorem d2_55 : decode prog_48_method_5_code 55 = .ok (.ifCond .gt 7, 3) := by decide +kernel
theorem d2_58 : decode prog_48_method_5_code 58 = .ok (.iconst 1, 1) := by decide +kernel
theorem d2_59 : decode prog_48_method_5_code 59 = .ok (.goto 4, 3) := by decide +kernel
theorem d2_62 : decode prog_48_method_5_code 62 = .ok (.iconst 0, 1) := by decide +kernel
theorem d2_63 : decode prog_48_method_5_code 63 = .ok (.ireturn, 1) := by decide +kernel
theorem pd_0 : parseMethodDescriptor "(III)Z" = some ⟨[.int, .int, .int], some .boolean⟩ := by decide +kernel

def own_ok (r c k : Int32) : Prop := 1 ≤ r.toInt ∧ 1 ≤ c.toInt ∧ 1 ≤ k.toInt ∧ c.toInt * k.toInt ≤ 715827879 ∧ c.toInt * k.toInt * (r.toInt * k.toInt) ≤ 2147483639
def own_b (r c k : Int32) : Int32 := if 1 ≤ r.toInt ∧ 1 ≤ c.toInt ∧ 1 ≤ k.toInt ∧ c.toInt * k.toInt ≤ 715827879 ∧ c.toInt * k.toInt * (r.toInt * k.toInt) ≤ 2147483639 then 1 else 0
theorem own_b1 {r c k : Int32} (h : own_ok r c k) : own_b r c k = 1 := if_pos h
theorem own_b0 {r c k : Int32} (h : ¬ own_ok r c k) : own_b r c k = 0 := if_neg h
theorem own_b01 (r c k : Int32) : own_b r c k = 0 ∨ own_b r c k = 1 := by
  by_cases h : own_ok r c k
  · exact Or.inr (own_b1 h)
  · exact Or.inl (own_b0 h)
theorem own_lt1 {r : Int32} : r < 1 ↔ r.toInt < 1 := by rw [Int32.lt_iff_toInt_lt]; exact Iff.rfl
theorem own_wide (c k : Int32) : (c.toInt64 * k.toInt64).toInt = c.toInt * k.toInt := Jvm.Free.XT.wideMul c k
theorem own_pos {c k : Int32} (h2 : ¬ c < 1) (h3 : ¬ k < 1) : 1 ≤ c.toInt * k.toInt := by
  rw [own_lt1] at h2 h3
  have : 1 * 1 ≤ c.toInt * k.toInt := Int.mul_le_mul (by omega) (by omega) (by omega) (by omega)
  omega
theorem own_nz1 {c k : Int32} (h2 : ¬ c < 1) (h3 : ¬ k < 1) : ¬ c.toInt64 * k.toInt64 = 0 := fun q => by
  have a := own_pos h2 h3
  have b := own_wide c k
  rw [q] at b
  have e : (0 : Int64).toInt = 0 := rfl
  omega
theorem own_nz2 {k : Int32} (h3 : ¬ k < 1) : ¬ k.toInt64 = 0 := fun q => by
  rw [own_lt1] at h3
  have b := c_i2l k
  rw [q] at b
  have e : (0 : Int64).toInt = 0 := rfl
  omega
theorem own_r {r c k : Int32} (h : r < 1) : own_b r c k = 0 := own_b0 fun q => by rw [own_lt1] at h; have := q.1; omega
theorem own_c {r c k : Int32} (h : c < 1) : own_b r c k = 0 := own_b0 fun q => by rw [own_lt1] at h; have := q.2.1; omega
theorem own_k {r c k : Int32} (h : k < 1) : own_b r c k = 0 := own_b0 fun q => by rw [own_lt1] at h; have := q.2.2.1; omega
theorem own_w {r c k : Int32} (h : 715827879 < c.toInt64 * k.toInt64) : own_b r c k = 0 := own_b0 fun q => by
  rw [Int64.lt_iff_toInt_lt, own_wide] at h
  have := q.2.2.2.1
  have e : (715827879 : Int64).toInt = 715827879 := rfl
  omega
theorem own_div {c k : Int32} (h2 : ¬ c < 1) (h3 : ¬ k < 1) : (2147483639 / (c.toInt64 * k.toInt64) / k.toInt64).toInt = 2147483639 / (c.toInt * k.toInt) / k.toInt := by
  have a := own_pos h2 h3
  rw [own_lt1] at h3
  have e : (2147483639 : Int64).toInt = 2147483639 := rfl
  have em : (-1 : Int64).toInt = -1 := rfl
  have n1 : c.toInt64 * k.toInt64 ≠ -1 := fun q => by have b := own_wide c k; rw [q] at b; omega
  have n2 : k.toInt64 ≠ -1 := fun q => by have b := c_i2l k; rw [q] at b; omega
  have d1 := (c_ldiv 2147483639 (c.toInt64 * k.toInt64) _ (own_wide c k) n1).1 (by rw [e]; omega)
  rw [e] at d1
  have g : 0 ≤ 2147483639 / (c.toInt * k.toInt) := Int.ediv_nonneg (by omega) (by omega)
  have d2 := (c_ldiv (2147483639 / (c.toInt64 * k.toInt64)) k.toInt64 _ (c_i2l k) n2).1 (by rw [d1]; exact g)
  rw [d2, d1]
theorem own_iff {r c k : Int32} (h1 : ¬ r < 1) (h2 : ¬ c < 1) (h3 : ¬ k < 1) (h4 : ¬ 715827879 < c.toInt64 * k.toInt64) : (own_ok r c k ↔ ¬ 2147483639 / (c.toInt64 * k.toInt64) / k.toInt64 < r.toInt64) := by
  have a := own_pos h2 h3
  have d := own_div h2 h3
  rw [Int64.lt_iff_toInt_lt, own_wide] at h4
  have e : (715827879 : Int64).toInt = 715827879 := rfl
  rw [Int64.lt_iff_toInt_lt, d, c_i2l]
  rw [own_lt1] at h1 h2 h3
  have q1 : r.toInt ≤ 2147483639 / (c.toInt * k.toInt) / k.toInt ↔ r.toInt * k.toInt ≤ 2147483639 / (c.toInt * k.toInt) := Int.le_ediv_iff_mul_le (by omega)
  have q2 : r.toInt * k.toInt ≤ 2147483639 / (c.toInt * k.toInt) ↔ r.toInt * k.toInt * (c.toInt * k.toInt) ≤ 2147483639 := Int.le_ediv_iff_mul_le (by omega)
  rw [Int.mul_comm (r.toInt * k.toInt)] at q2
  constructor
  · intro q; have := q1.mpr (q2.mpr q.2.2.2.2); omega
  · intro q; exact ⟨by omega, by omega, by omega, by omega, q2.mp (q1.mp (by omega))⟩
theorem own_h {r c k : Int32} (h1 : ¬ r < 1) (h2 : ¬ c < 1) (h3 : ¬ k < 1) (h : 2147483639 < r.toInt64 * k.toInt64) : own_b r c k = 0 := own_b0 fun q => by
  have a := own_pos h2 h3
  have b := own_pos h1 h3
  rw [Int64.lt_iff_toInt_lt, own_wide] at h
  have e : (2147483639 : Int64).toInt = 2147483639 := rfl
  have z := q.2.2.2.2
  have : 1 * (r.toInt * k.toInt) ≤ c.toInt * k.toInt * (r.toInt * k.toInt) := Int.mul_le_mul_of_nonneg_right a (by omega)
  omega
theorem own_prod {r c k : Int32} (h1 : ¬ r < 1) (h2 : ¬ c < 1) (h3 : ¬ k < 1) (h4 : ¬ 715827879 < c.toInt64 * k.toInt64) (h5 : ¬ 2147483639 < r.toInt64 * k.toInt64) : (own_ok r c k ↔ ¬ 2147483639 < c.toInt64 * k.toInt64 * (r.toInt64 * k.toInt64)) := by
  have a := own_pos h2 h3
  have b := own_pos h1 h3
  rw [Int64.lt_iff_toInt_lt, own_wide] at h4 h5
  have e : (715827879 : Int64).toInt = 715827879 := rfl
  have e' : (2147483639 : Int64).toInt = 2147483639 := rfl
  have u1 : 0 ≤ c.toInt * k.toInt * (r.toInt * k.toInt) := Int.mul_nonneg (by omega) (by omega)
  have u2 : c.toInt * k.toInt * (r.toInt * k.toInt) ≤ 715827879 * (r.toInt * k.toInt) := Int.mul_le_mul_of_nonneg_right (by omega) (by omega)
  have m := c_lmul (c.toInt64 * k.toInt64) (r.toInt64 * k.toInt64)
  have g := rng64 (c.toInt64 * k.toInt64 * (r.toInt64 * k.toInt64))
  rw [own_wide, own_wide] at m
  rw [Int64.lt_iff_toInt_lt]
  rw [own_lt1] at h1 h2 h3
  constructor
  · intro q; have := q.2.2.2.2; omega
  · intro q; exact ⟨by omega, by omega, by omega, by omega, by omega⟩

theorem ef_rm1 (m : MethodId) (x0 : Int32) (x1 : Int32) (x2 : Int32) : entryFrame m #[(.int x0), (.int x1), (.int x2)] 5 = mkF m 0 #[.val (.int x0), .val (.int x1), .val (.int x2), .unset, .unset] [] := by first | (simp [entryFrame, mkF, argsToLocals, Value.category]; done) | rfl
set_option maxRecDepth 65536 in
set_option maxHeartbeats 40000000 in
theorem rm1 (l : Launch) (Z : State) (a0 : Array Value) (hw : ∀ d ∈ tables_1, d.before a0 Z = true) (r c' k' : Int32) (h0 : Heap)  :
    Met l Z (⟨"com/example/brisk_matrix/briskmatrix/render/MatrixImageFitsPinLaw", "expectedFits", "(III)Z"⟩ : MethodName) method_2_code 5 (some .boolean) ({ frames := 0, cells := 0, slots := 0, locals := 0 } : Room) #[(.int r), (.int c'), (.int k')] h0 (fun v h L => v = some (.int (own_b r c' k')) ∧ L = [] ∧ h = h0) := by
  refine Met.intro (plainFor_of_name (by first | (simp [plainName, overriddenIn]; done) | decide +kernel)) ?_
  intro p e s m below meth c T0 hx hby hml hown hnm hret hlk hZ X0 e0
  refine Go.cast (ef_rm1 m r c' k') ?_
  refine Go.back (f' := (mkF m 1 #[.val (.int r), .val (.int c'), .val (.int k'), .unset, .unset] [(.int r)])) (fun _ k => XS.iloadN X0.here hx rfl (hb hby d1_0) rfl k) ?_
  refine Go.back (f' := (mkF m 2 #[.val (.int r), .val (.int c'), .val (.int k'), .unset, .unset] [(.int (1 : Int32)), (.int r)])) (fun _ k => XS.iconst X0.here hx rfl (hb hby d1_1) k) ?_
  by_cases h1 : r < (1 : Int32)
  · refine Go.back (f' := (mkF m 15 #[.val (.int r), .val (.int c'), .val (.int k'), .unset, .unset] [])) (fun _ k => XS.icmpYes X0.here hx rfl (pc0 := 2) (pc' := 15) rfl (hb hby d1_2) rfl (tlt h1).1 (by decide) (by decide) k) ?_
    refine Go.back (f' := (mkF m 16 #[.val (.int r), .val (.int c'), .val (.int k'), .unset, .unset] [(.int (0 : Int32))])) (fun _ k => XS.iconst X0.here hx rfl (hb hby d1_15) k) ?_
    exact Go.retN X0 hx (t := .boolean) hret (by simp) (w := (0 : Int32)) rfl hlk (hb hby d1_16) (by (try rw [e0]); exact ⟨by rw [own_r h1], rfl, rfl⟩) (Nat.zero_le _) (Nat.zero_le _)
  · refine Go.back (f' := (mkF m 5 #[.val (.int r), .val (.int c'), .val (.int k'), .unset, .unset] [])) (fun _ k => XS.icmpNo X0.here hx rfl (hb hby d1_2) rfl (flt h1).1 k) ?_
    refine Go.back (f' := (mkF m 6 #[.val (.int r), .val (.int c'), .val (.int k'), .unset, .unset] [(.int c')])) (fun _ k => XS.iloadN X0.here hx rfl (hb hby d1_5) rfl k) ?_
    refine Go.back (f' := (mkF m 7 #[.val (.int r), .val (.int c'), .val (.int k'), .unset, .unset] [(.int (1 : Int32)), (.int c')])) (fun _ k => XS.iconst X0.here hx rfl (hb hby d1_6) k) ?_
    by_cases h2 : c' < (1 : Int32)
    · refine Go.back (f' := (mkF m 15 #[.val (.int r), .val (.int c'), .val (.int k'), .unset, .unset] [])) (fun _ k => XS.icmpYes X0.here hx rfl (pc0 := 7) (pc' := 15) rfl (hb hby d1_7) rfl (tlt h2).1 (by decide) (by decide) k) ?_
      refine Go.back (f' := (mkF m 16 #[.val (.int r), .val (.int c'), .val (.int k'), .unset, .unset] [(.int (0 : Int32))])) (fun _ k => XS.iconst X0.here hx rfl (hb hby d1_15) k) ?_
      exact Go.retN X0 hx (t := .boolean) hret (by simp) (w := (0 : Int32)) rfl hlk (hb hby d1_16) (by (try rw [e0]); exact ⟨by rw [own_c h2], rfl, rfl⟩) (Nat.zero_le _) (Nat.zero_le _)
    · refine Go.back (f' := (mkF m 10 #[.val (.int r), .val (.int c'), .val (.int k'), .unset, .unset] [])) (fun _ k => XS.icmpNo X0.here hx rfl (hb hby d1_7) rfl (flt h2).1 k) ?_
      refine Go.back (f' := (mkF m 11 #[.val (.int r), .val (.int c'), .val (.int k'), .unset, .unset] [(.int k')])) (fun _ k => XS.iloadN X0.here hx rfl (hb hby d1_10) rfl k) ?_
      refine Go.back (f' := (mkF m 12 #[.val (.int r), .val (.int c'), .val (.int k'), .unset, .unset] [(.int (1 : Int32)), (.int k')])) (fun _ k => XS.iconst X0.here hx rfl (hb hby d1_11) k) ?_
      by_cases h3 : k' < (1 : Int32)
      · refine Go.back (f' := (mkF m 15 #[.val (.int r), .val (.int c'), .val (.int k'), .unset, .unset] [])) (fun _ k => XS.icmpNo X0.here hx rfl (hb hby d1_12) rfl (tlt h3).2.1 k) ?_
        refine Go.back (f' := (mkF m 16 #[.val (.int r), .val (.int c'), .val (.int k'), .unset, .unset] [(.int (0 : Int32))])) (fun _ k => XS.iconst X0.here hx rfl (hb hby d1_15) k) ?_
        exact Go.retN X0 hx (t := .boolean) hret (by simp) (w := (0 : Int32)) rfl hlk (hb hby d1_16) (by (try rw [e0]); exact ⟨by rw [own_k h3], rfl, rfl⟩) (Nat.zero_le _) (Nat.zero_le _)
      · refine Go.back (f' := (mkF m 17 #[.val (.int r), .val (.int c'), .val (.int k'), .unset, .unset] [])) (fun _ k => XS.icmpYes X0.here hx rfl (pc0 := 12) (pc' := 17) rfl (hb hby d1_12) rfl (flt h3).2.1 (by decide) (by decide) k) ?_
        refine Go.back (f' := (mkF m 18 #[.val (.int r), .val (.int c'), .val (.int k'), .unset, .unset] [(.int c')])) (fun _ k => XS.iloadN X0.here hx rfl (hb hby d1_17) rfl k) ?_
        refine Go.back (f' := (mkF m 19 #[.val (.int r), .val (.int c'), .val (.int k'), .unset, .unset] [(.long (c'.toInt64))])) (fun _ k => XS.i2l X0.here hx rfl (hb hby d1_18) rfl k) ?_
        refine Go.back (f' := (mkF m 20 #[.val (.int r), .val (.int c'), .val (.int k'), .unset, .unset] [(.int k'), (.long (c'.toInt64))])) (fun _ k => XS.iloadN X0.here hx rfl (hb hby d1_19) rfl k) ?_
        refine Go.back (f' := (mkF m 21 #[.val (.int r), .val (.int c'), .val (.int k'), .unset, .unset] [(.long (k'.toInt64)), (.long (c'.toInt64))])) (fun _ k => XS.i2l X0.here hx rfl (hb hby d1_20) rfl k) ?_
        refine Go.back (f' := (mkF m 22 #[.val (.int r), .val (.int c'), .val (.int k'), .unset, .unset] [(.long ((c'.toInt64) * (k'.toInt64)))])) (fun _ k => XS.lmul X0.here hx rfl (hb hby d1_21) rfl k) ?_
        refine Go.back (f' := (mkF m 23 #[.val (.int r), .val (.int c'), .val (.int k'), .val (.long ((c'.toInt64) * (k'.toInt64))), .second] [])) (fun _ k => XS.lstoreN X0.here hx rfl (hb hby d1_22) rfl (l' := #[.val (.int r), .val (.int c'), .val (.int k'), .val (.long ((c'.toInt64) * (k'.toInt64))), .second]) rfl k) ?_
        refine Go.back (f' := (mkF m 24 #[.val (.int r), .val (.int c'), .val (.int k'), .val (.long ((c'.toInt64) * (k'.toInt64))), .second] [(.long ((c'.toInt64) * (k'.toInt64)))])) (fun _ k => XS.lloadN X0.here hx rfl (hb hby d1_23) rfl k) ?_
        refine Go.back (f' := (mkF m 27 #[.val (.int r), .val (.int c'), .val (.int k'), .val (.long ((c'.toInt64) * (k'.toInt64))), .second] [(.long (715827879 : Int64)), (.long ((c'.toInt64) * (k'.toInt64)))])) (fun _ k => X0.ldc2Long hx hown (mvT hZ (hw _ (List.mem_of_getElem? (i := 5) rfl))) (g := (mkF m 24 #[.val (.int r), .val (.int c'), .val (.int k'), .val (.long ((c'.toInt64) * (k'.toInt64))), .second] [(.long ((c'.toInt64) * (k'.toInt64)))])) rfl (hb hby d1_24) _ k) ?_
        refine Go.back (f' := (mkF m 28 #[.val (.int r), .val (.int c'), .val (.int k'), .val (.long ((c'.toInt64) * (k'.toInt64))), .second] [(.int (lcmpW ((c'.toInt64) * (k'.toInt64)) (715827879 : Int64)))])) (fun _ k => XS.lcmp X0.here hx rfl (hb hby d1_27) rfl k) ?_
        by_cases h4 : (715827879 : Int64) < ((c'.toInt64) * (k'.toInt64))
        · refine Go.back (f' := (mkF m 31 #[.val (.int r), .val (.int c'), .val (.int k'), .val (.long ((c'.toInt64) * (k'.toInt64))), .second] [])) (fun _ k => XS.ifNo X0.here hx rfl (hb hby d1_28) rfl (l_le_f h4) k) ?_
          refine Go.back (f' := (mkF m 32 #[.val (.int r), .val (.int c'), .val (.int k'), .val (.long ((c'.toInt64) * (k'.toInt64))), .second] [(.int (0 : Int32))])) (fun _ k => XS.iconst X0.here hx rfl (hb hby d1_31) k) ?_
          exact Go.retN X0 hx (t := .boolean) hret (by simp) (w := (0 : Int32)) rfl hlk (hb hby d1_32) (by (try rw [e0]); exact ⟨by rw [own_w h4], rfl, rfl⟩) (Nat.zero_le _) (Nat.zero_le _)
        · refine Go.back (f' := (mkF m 33 #[.val (.int r), .val (.int c'), .val (.int k'), .val (.long ((c'.toInt64) * (k'.toInt64))), .second] [])) (fun _ k => XS.ifYes X0.here hx rfl (pc0 := 28) (pc' := 33) rfl (hb hby d1_28) rfl (l_le_t h4) (by decide) (by decide) k) ?_
          refine Go.back (f' := (mkF m 34 #[.val (.int r), .val (.int c'), .val (.int k'), .val (.long ((c'.toInt64) * (k'.toInt64))), .second] [(.int r)])) (fun _ k => XS.iloadN X0.here hx rfl (hb hby d1_33) rfl k) ?_
          refine Go.back (f' := (mkF m 35 #[.val (.int r), .val (.int c'), .val (.int k'), .val (.long ((c'.toInt64) * (k'.toInt64))), .second] [(.long (r.toInt64))])) (fun _ k => XS.i2l X0.here hx rfl (hb hby d1_34) rfl k) ?_
          refine Go.back (f' := (mkF m 38 #[.val (.int r), .val (.int c'), .val (.int k'), .val (.long ((c'.toInt64) * (k'.toInt64))), .second] [(.long (2147483639 : Int64)), (.long (r.toInt64))])) (fun _ k => X0.ldc2Long hx hown (mvT hZ (hw _ (List.mem_of_getElem? (i := 0) rfl))) (g := (mkF m 35 #[.val (.int r), .val (.int c'), .val (.int k'), .val (.long ((c'.toInt64) * (k'.toInt64))), .second] [(.long (r.toInt64))])) rfl (hb hby d1_35) _ k) ?_
          refine Go.back (f' := (mkF m 39 #[.val (.int r), .val (.int c'), .val (.int k'), .val (.long ((c'.toInt64) * (k'.toInt64))), .second] [(.long ((c'.toInt64) * (k'.toInt64))), (.long (2147483639 : Int64)), (.long (r.toInt64))])) (fun _ k => XS.lloadN X0.here hx rfl (hb hby d1_38) rfl k) ?_
          refine Go.back (f' := (mkF m 40 #[.val (.int r), .val (.int c'), .val (.int k'), .val (.long ((c'.toInt64) * (k'.toInt64))), .second] [(.long ((2147483639 : Int64) / ((c'.toInt64) * (k'.toInt64)))), (.long (r.toInt64))])) (fun _ k => XS.ldiv X0.here hx rfl (hb hby d1_39) rfl (own_nz1 h2 h3) k) ?_
          refine Go.back (f' := (mkF m 41 #[.val (.int r), .val (.int c'), .val (.int k'), .val (.long ((c'.toInt64) * (k'.toInt64))), .second] [(.int k'), (.long ((2147483639 : Int64) / ((c'.toInt64) * (k'.toInt64)))), (.long (r.toInt64))])) (fun _ k => XS.iloadN X0.here hx rfl (hb hby d1_40) rfl k) ?_
          refine Go.back (f' := (mkF m 42 #[.val (.int r), .val (.int c'), .val (.int k'), .val (.long ((c'.toInt64) * (k'.toInt64))), .second] [(.long (k'.toInt64)), (.long ((2147483639 : Int64) / ((c'.toInt64) * (k'.toInt64)))), (.long (r.toInt64))])) (fun _ k => XS.i2l X0.here hx rfl (hb hby d1_41) rfl k) ?_
          refine Go.back (f' := (mkF m 43 #[.val (.int r), .val (.int c'), .val (.int k'), .val (.long ((c'.toInt64) * (k'.toInt64))), .second] [(.long (((2147483639 : Int64) / ((c'.toInt64) * (k'.toInt64))) / (k'.toInt64))), (.long (r.toInt64))])) (fun _ k => XS.ldiv X0.here hx rfl (hb hby d1_42) rfl (own_nz2 h3) k) ?_
          refine Go.back (f' := (mkF m 44 #[.val (.int r), .val (.int c'), .val (.int k'), .val (.long ((c'.toInt64) * (k'.toInt64))), .second] [(.int (lcmpW (r.toInt64) (((2147483639 : Int64) / ((c'.toInt64) * (k'.toInt64))) / (k'.toInt64))))])) (fun _ k => XS.lcmp X0.here hx rfl (hb hby d1_43) rfl k) ?_
          by_cases h5 : (((2147483639 : Int64) / ((c'.toInt64) * (k'.toInt64))) / (k'.toInt64)) < (r.toInt64)
          · refine Go.back (f' := (mkF m 51 #[.val (.int r), .val (.int c'), .val (.int k'), .val (.long ((c'.toInt64) * (k'.toInt64))), .second] [])) (fun _ k => XS.ifYes X0.here hx rfl (pc0 := 44) (pc' := 51) rfl (hb hby d1_44) rfl (l_gt_t h5) (by decide) (by decide) k) ?_
            refine Go.back (f' := (mkF m 52 #[.val (.int r), .val (.int c'), .val (.int k'), .val (.long ((c'.toInt64) * (k'.toInt64))), .second] [(.int (0 : Int32))])) (fun _ k => XS.iconst X0.here hx rfl (hb hby d1_51) k) ?_
            exact Go.retN X0 hx (t := .boolean) hret (by simp) (w := (0 : Int32)) rfl hlk (hb hby d1_52) (by (try rw [e0]); exact ⟨by rw [own_b0 fun q => (own_iff h1 h2 h3 h4).mp q h5], rfl, rfl⟩) (Nat.zero_le _) (Nat.zero_le _)
          · refine Go.back (f' := (mkF m 47 #[.val (.int r), .val (.int c'), .val (.int k'), .val (.long ((c'.toInt64) * (k'.toInt64))), .second] [])) (fun _ k => XS.ifNo X0.here hx rfl (hb hby d1_44) rfl (l_gt_f h5) k) ?_
            refine Go.back (f' := (mkF m 48 #[.val (.int r), .val (.int c'), .val (.int k'), .val (.long ((c'.toInt64) * (k'.toInt64))), .second] [(.int (1 : Int32))])) (fun _ k => XS.iconst X0.here hx rfl (hb hby d1_47) k) ?_
            refine Go.back (f' := (mkF m 52 #[.val (.int r), .val (.int c'), .val (.int k'), .val (.long ((c'.toInt64) * (k'.toInt64))), .second] [(.int (1 : Int32))])) (fun _ k => XS.goto X0.here hx rfl (pc0 := 48) (pc' := 52) rfl (hb hby d1_48) (by decide) (by decide) k) ?_
            exact Go.retN X0 hx (t := .boolean) hret (by simp) (w := (1 : Int32)) rfl hlk (hb hby d1_52) (by (try rw [e0]); exact ⟨by rw [own_b1 ((own_iff h1 h2 h3 h4).mpr h5)], rfl, rfl⟩) (Nat.zero_le _) (Nat.zero_le _)
theorem ef_rm2 (m : MethodId) (x0 : Int32) (x1 : Int32) (x2 : Int32) : entryFrame m #[(.int x0), (.int x1), (.int x2)] 7 = mkF m 0 #[.val (.int x0), .val (.int x1), .val (.int x2), .unset, .unset, .unset, .unset] [] := by first | (simp [entryFrame, mkF, argsToLocals, Value.category]; done) | rfl
set_option maxRecDepth 65536 in
set_option maxHeartbeats 40000000 in
theorem rm2 (l : Launch) (Z : State) (a0 : Array Value) (hw : ∀ d ∈ tables_1, d.before a0 Z = true) (r c' k' : Int32) (h0 : Heap)  :
    Met l Z (⟨"com/example/brisk_matrix/briskmatrix/render/MatrixImage", "fits", "(III)Z"⟩ : MethodName) prog_48_method_5_code 7 (some .boolean) ({ frames := 0, cells := 0, slots := 0, locals := 0 } : Room) #[(.int r), (.int c'), (.int k')] h0 (fun v h L => v = some (.int (own_b r c' k')) ∧ L = [] ∧ h = h0) := by
  refine Met.intro (plainFor_of_name (by first | (simp [plainName, overriddenIn]; done) | decide +kernel)) ?_
  intro p e s m below meth c T0 hx hby hml hown hnm hret hlk hZ X0 e0
  refine Go.cast (ef_rm2 m r c' k') ?_
  refine Go.back (f' := (mkF m 1 #[.val (.int r), .val (.int c'), .val (.int k'), .unset, .unset, .unset, .unset] [(.int r)])) (fun _ k => XS.iloadN X0.here hx rfl (hb hby d2_0) rfl k) ?_
  refine Go.back (f' := (mkF m 2 #[.val (.int r), .val (.int c'), .val (.int k'), .unset, .unset, .unset, .unset] [(.int (1 : Int32)), (.int r)])) (fun _ k => XS.iconst X0.here hx rfl (hb hby d2_1) k) ?_
  by_cases h1 : r < (1 : Int32)
  · refine Go.back (f' := (mkF m 15 #[.val (.int r), .val (.int c'), .val (.int k'), .unset, .unset, .unset, .unset] [])) (fun _ k => XS.icmpYes X0.here hx rfl (pc0 := 2) (pc' := 15) rfl (hb hby d2_2) rfl (tlt h1).1 (by decide) (by decide) k) ?_
    refine Go.back (f' := (mkF m 16 #[.val (.int r), .val (.int c'), .val (.int k'), .unset, .unset, .unset, .unset] [(.int (0 : Int32))])) (fun _ k => XS.iconst X0.here hx rfl (hb hby d2_15) k) ?_
    exact Go.retN X0 hx (t := .boolean) hret (by simp) (w := (0 : Int32)) rfl hlk (hb hby d2_16) (by (try rw [e0]); exact ⟨by rw [own_r h1], rfl, rfl⟩) (Nat.zero_le _) (Nat.zero_le _)
  · refine Go.back (f' := (mkF m 5 #[.val (.int r), .val (.int c'), .val (.int k'), .unset, .unset, .unset, .unset] [])) (fun _ k => XS.icmpNo X0.here hx rfl (hb hby d2_2) rfl (flt h1).1 k) ?_
    refine Go.back (f' := (mkF m 6 #[.val (.int r), .val (.int c'), .val (.int k'), .unset, .unset, .unset, .unset] [(.int c')])) (fun _ k => XS.iloadN X0.here hx rfl (hb hby d2_5) rfl k) ?_
    refine Go.back (f' := (mkF m 7 #[.val (.int r), .val (.int c'), .val (.int k'), .unset, .unset, .unset, .unset] [(.int (1 : Int32)), (.int c')])) (fun _ k => XS.iconst X0.here hx rfl (hb hby d2_6) k) ?_
    by_cases h2 : c' < (1 : Int32)
    · refine Go.back (f' := (mkF m 15 #[.val (.int r), .val (.int c'), .val (.int k'), .unset, .unset, .unset, .unset] [])) (fun _ k => XS.icmpYes X0.here hx rfl (pc0 := 7) (pc' := 15) rfl (hb hby d2_7) rfl (tlt h2).1 (by decide) (by decide) k) ?_
      refine Go.back (f' := (mkF m 16 #[.val (.int r), .val (.int c'), .val (.int k'), .unset, .unset, .unset, .unset] [(.int (0 : Int32))])) (fun _ k => XS.iconst X0.here hx rfl (hb hby d2_15) k) ?_
      exact Go.retN X0 hx (t := .boolean) hret (by simp) (w := (0 : Int32)) rfl hlk (hb hby d2_16) (by (try rw [e0]); exact ⟨by rw [own_c h2], rfl, rfl⟩) (Nat.zero_le _) (Nat.zero_le _)
    · refine Go.back (f' := (mkF m 10 #[.val (.int r), .val (.int c'), .val (.int k'), .unset, .unset, .unset, .unset] [])) (fun _ k => XS.icmpNo X0.here hx rfl (hb hby d2_7) rfl (flt h2).1 k) ?_
      refine Go.back (f' := (mkF m 11 #[.val (.int r), .val (.int c'), .val (.int k'), .unset, .unset, .unset, .unset] [(.int k')])) (fun _ k => XS.iloadN X0.here hx rfl (hb hby d2_10) rfl k) ?_
      refine Go.back (f' := (mkF m 12 #[.val (.int r), .val (.int c'), .val (.int k'), .unset, .unset, .unset, .unset] [(.int (1 : Int32)), (.int k')])) (fun _ k => XS.iconst X0.here hx rfl (hb hby d2_11) k) ?_
      by_cases h3 : k' < (1 : Int32)
      · refine Go.back (f' := (mkF m 15 #[.val (.int r), .val (.int c'), .val (.int k'), .unset, .unset, .unset, .unset] [])) (fun _ k => XS.icmpNo X0.here hx rfl (hb hby d2_12) rfl (tlt h3).2.1 k) ?_
        refine Go.back (f' := (mkF m 16 #[.val (.int r), .val (.int c'), .val (.int k'), .unset, .unset, .unset, .unset] [(.int (0 : Int32))])) (fun _ k => XS.iconst X0.here hx rfl (hb hby d2_15) k) ?_
        exact Go.retN X0 hx (t := .boolean) hret (by simp) (w := (0 : Int32)) rfl hlk (hb hby d2_16) (by (try rw [e0]); exact ⟨by rw [own_k h3], rfl, rfl⟩) (Nat.zero_le _) (Nat.zero_le _)
      · refine Go.back (f' := (mkF m 17 #[.val (.int r), .val (.int c'), .val (.int k'), .unset, .unset, .unset, .unset] [])) (fun _ k => XS.icmpYes X0.here hx rfl (pc0 := 12) (pc' := 17) rfl (hb hby d2_12) rfl (flt h3).2.1 (by decide) (by decide) k) ?_
        refine Go.back (f' := (mkF m 18 #[.val (.int r), .val (.int c'), .val (.int k'), .unset, .unset, .unset, .unset] [(.int c')])) (fun _ k => XS.iloadN X0.here hx rfl (hb hby d2_17) rfl k) ?_
        refine Go.back (f' := (mkF m 19 #[.val (.int r), .val (.int c'), .val (.int k'), .unset, .unset, .unset, .unset] [(.long (c'.toInt64))])) (fun _ k => XS.i2l X0.here hx rfl (hb hby d2_18) rfl k) ?_
        refine Go.back (f' := (mkF m 20 #[.val (.int r), .val (.int c'), .val (.int k'), .unset, .unset, .unset, .unset] [(.int k'), (.long (c'.toInt64))])) (fun _ k => XS.iloadN X0.here hx rfl (hb hby d2_19) rfl k) ?_
        refine Go.back (f' := (mkF m 21 #[.val (.int r), .val (.int c'), .val (.int k'), .unset, .unset, .unset, .unset] [(.long (k'.toInt64)), (.long (c'.toInt64))])) (fun _ k => XS.i2l X0.here hx rfl (hb hby d2_20) rfl k) ?_
        refine Go.back (f' := (mkF m 22 #[.val (.int r), .val (.int c'), .val (.int k'), .unset, .unset, .unset, .unset] [(.long ((c'.toInt64) * (k'.toInt64)))])) (fun _ k => XS.lmul X0.here hx rfl (hb hby d2_21) rfl k) ?_
        refine Go.back (f' := (mkF m 23 #[.val (.int r), .val (.int c'), .val (.int k'), .val (.long ((c'.toInt64) * (k'.toInt64))), .second, .unset, .unset] [])) (fun _ k => XS.lstoreN X0.here hx rfl (hb hby d2_22) rfl (l' := #[.val (.int r), .val (.int c'), .val (.int k'), .val (.long ((c'.toInt64) * (k'.toInt64))), .second, .unset, .unset]) rfl k) ?_
        refine Go.back (f' := (mkF m 24 #[.val (.int r), .val (.int c'), .val (.int k'), .val (.long ((c'.toInt64) * (k'.toInt64))), .second, .unset, .unset] [(.int r)])) (fun _ k => XS.iloadN X0.here hx rfl (hb hby d2_23) rfl k) ?_
        refine Go.back (f' := (mkF m 25 #[.val (.int r), .val (.int c'), .val (.int k'), .val (.long ((c'.toInt64) * (k'.toInt64))), .second, .unset, .unset] [(.long (r.toInt64))])) (fun _ k => XS.i2l X0.here hx rfl (hb hby d2_24) rfl k) ?_
        refine Go.back (f' := (mkF m 26 #[.val (.int r), .val (.int c'), .val (.int k'), .val (.long ((c'.toInt64) * (k'.toInt64))), .second, .unset, .unset] [(.int k'), (.long (r.toInt64))])) (fun _ k => XS.iloadN X0.here hx rfl (hb hby d2_25) rfl k) ?_
        refine Go.back (f' := (mkF m 27 #[.val (.int r), .val (.int c'), .val (.int k'), .val (.long ((c'.toInt64) * (k'.toInt64))), .second, .unset, .unset] [(.long (k'.toInt64)), (.long (r.toInt64))])) (fun _ k => XS.i2l X0.here hx rfl (hb hby d2_26) rfl k) ?_
        refine Go.back (f' := (mkF m 28 #[.val (.int r), .val (.int c'), .val (.int k'), .val (.long ((c'.toInt64) * (k'.toInt64))), .second, .unset, .unset] [(.long ((r.toInt64) * (k'.toInt64)))])) (fun _ k => XS.lmul X0.here hx rfl (hb hby d2_27) rfl k) ?_
        refine Go.back (f' := (mkF m 30 #[.val (.int r), .val (.int c'), .val (.int k'), .val (.long ((c'.toInt64) * (k'.toInt64))), .second, .val (.long ((r.toInt64) * (k'.toInt64))), .second] [])) (fun _ k => XS.lstore X0.here hx rfl (hb hby d2_28) rfl (l' := #[.val (.int r), .val (.int c'), .val (.int k'), .val (.long ((c'.toInt64) * (k'.toInt64))), .second, .val (.long ((r.toInt64) * (k'.toInt64))), .second]) rfl k) ?_
        refine Go.back (f' := (mkF m 31 #[.val (.int r), .val (.int c'), .val (.int k'), .val (.long ((c'.toInt64) * (k'.toInt64))), .second, .val (.long ((r.toInt64) * (k'.toInt64))), .second] [(.long ((c'.toInt64) * (k'.toInt64)))])) (fun _ k => XS.lloadN X0.here hx rfl (hb hby d2_30) rfl k) ?_
        refine Go.back (f' := (mkF m 34 #[.val (.int r), .val (.int c'), .val (.int k'), .val (.long ((c'.toInt64) * (k'.toInt64))), .second, .val (.long ((r.toInt64) * (k'.toInt64))), .second] [(.long (715827879 : Int64)), (.long ((c'.toInt64) * (k'.toInt64)))])) (fun _ k => X0.ldc2Long hx hown (mvT hZ (hw _ (List.mem_of_getElem? (i := 10) rfl))) (g := (mkF m 31 #[.val (.int r), .val (.int c'), .val (.int k'), .val (.long ((c'.toInt64) * (k'.toInt64))), .second, .val (.long ((r.toInt64) * (k'.toInt64))), .second] [(.long ((c'.toInt64) * (k'.toInt64)))])) rfl (hb hby d2_31) _ k) ?_
        refine Go.back (f' := (mkF m 35 #[.val (.int r), .val (.int c'), .val (.int k'), .val (.long ((c'.toInt64) * (k'.toInt64))), .second, .val (.long ((r.toInt64) * (k'.toInt64))), .second] [(.int (lcmpW ((c'.toInt64) * (k'.toInt64)) (715827879 : Int64)))])) (fun _ k => XS.lcmp X0.here hx rfl (hb hby d2_34) rfl k) ?_
        by_cases h4 : (715827879 : Int64) < ((c'.toInt64) * (k'.toInt64))
        · refine Go.back (f' := (mkF m 62 #[.val (.int r), .val (.int c'), .val (.int k'), .val (.long ((c'.toInt64) * (k'.toInt64))), .second, .val (.long ((r.toInt64) * (k'.toInt64))), .second] [])) (fun _ k => XS.ifYes X0.here hx rfl (pc0 := 35) (pc' := 62) rfl (hb hby d2_35) rfl (l_gt_t h4) (by decide) (by decide) k) ?_
          refine Go.back (f' := (mkF m 63 #[.val (.int r), .val (.int c'), .val (.int k'), .val (.long ((c'.toInt64) * (k'.toInt64))), .second, .val (.long ((r.toInt64) * (k'.toInt64))), .second] [(.int (0 : Int32))])) (fun _ k => XS.iconst X0.here hx rfl (hb hby d2_62) k) ?_
          exact Go.retN X0 hx (t := .boolean) hret (by simp) (w := (0 : Int32)) rfl hlk (hb hby d2_63) (by (try rw [e0]); exact ⟨by rw [own_w h4], rfl, rfl⟩) (Nat.zero_le _) (Nat.zero_le _)
        · refine Go.back (f' := (mkF m 38 #[.val (.int r), .val (.int c'), .val (.int k'), .val (.long ((c'.toInt64) * (k'.toInt64))), .second, .val (.long ((r.toInt64) * (k'.toInt64))), .second] [])) (fun _ k => XS.ifNo X0.here hx rfl (hb hby d2_35) rfl (l_gt_f h4) k) ?_
          refine Go.back (f' := (mkF m 40 #[.val (.int r), .val (.int c'), .val (.int k'), .val (.long ((c'.toInt64) * (k'.toInt64))), .second, .val (.long ((r.toInt64) * (k'.toInt64))), .second] [(.long ((r.toInt64) * (k'.toInt64)))])) (fun _ k => XS.lload X0.here hx rfl (hb hby d2_38) rfl k) ?_
          refine Go.back (f' := (mkF m 43 #[.val (.int r), .val (.int c'), .val (.int k'), .val (.long ((c'.toInt64) * (k'.toInt64))), .second, .val (.long ((r.toInt64) * (k'.toInt64))), .second] [(.long (2147483639 : Int64)), (.long ((r.toInt64) * (k'.toInt64)))])) (fun _ k => X0.ldc2Long hx hown (mvT hZ (hw _ (List.mem_of_getElem? (i := 11) rfl))) (g := (mkF m 40 #[.val (.int r), .val (.int c'), .val (.int k'), .val (.long ((c'.toInt64) * (k'.toInt64))), .second, .val (.long ((r.toInt64) * (k'.toInt64))), .second] [(.long ((r.toInt64) * (k'.toInt64)))])) rfl (hb hby d2_40) _ k) ?_
          refine Go.back (f' := (mkF m 44 #[.val (.int r), .val (.int c'), .val (.int k'), .val (.long ((c'.toInt64) * (k'.toInt64))), .second, .val (.long ((r.toInt64) * (k'.toInt64))), .second] [(.int (lcmpW ((r.toInt64) * (k'.toInt64)) (2147483639 : Int64)))])) (fun _ k => XS.lcmp X0.here hx rfl (hb hby d2_43) rfl k) ?_
          by_cases h5 : (2147483639 : Int64) < ((r.toInt64) * (k'.toInt64))
          · refine Go.back (f' := (mkF m 62 #[.val (.int r), .val (.int c'), .val (.int k'), .val (.long ((c'.toInt64) * (k'.toInt64))), .second, .val (.long ((r.toInt64) * (k'.toInt64))), .second] [])) (fun _ k => XS.ifYes X0.here hx rfl (pc0 := 44) (pc' := 62) rfl (hb hby d2_44) rfl (l_gt_t h5) (by decide) (by decide) k) ?_
            refine Go.back (f' := (mkF m 63 #[.val (.int r), .val (.int c'), .val (.int k'), .val (.long ((c'.toInt64) * (k'.toInt64))), .second, .val (.long ((r.toInt64) * (k'.toInt64))), .second] [(.int (0 : Int32))])) (fun _ k => XS.iconst X0.here hx rfl (hb hby d2_62) k) ?_
            exact Go.retN X0 hx (t := .boolean) hret (by simp) (w := (0 : Int32)) rfl hlk (hb hby d2_63) (by (try rw [e0]); exact ⟨by rw [own_h h1 h2 h3 h5], rfl, rfl⟩) (Nat.zero_le _) (Nat.zero_le _)
          · refine Go.back (f' := (mkF m 47 #[.val (.int r), .val (.int c'), .val (.int k'), .val (.long ((c'.toInt64) * (k'.toInt64))), .second, .val (.long ((r.toInt64) * (k'.toInt64))), .second] [])) (fun _ k => XS.ifNo X0.here hx rfl (hb hby d2_44) rfl (l_gt_f h5) k) ?_
            refine Go.back (f' := (mkF m 48 #[.val (.int r), .val (.int c'), .val (.int k'), .val (.long ((c'.toInt64) * (k'.toInt64))), .second, .val (.long ((r.toInt64) * (k'.toInt64))), .second] [(.long ((c'.toInt64) * (k'.toInt64)))])) (fun _ k => XS.lloadN X0.here hx rfl (hb hby d2_47) rfl k) ?_
            refine Go.back (f' := (mkF m 50 #[.val (.int r), .val (.int c'), .val (.int k'), .val (.long ((c'.toInt64) * (k'.toInt64))), .second, .val (.long ((r.toInt64) * (k'.toInt64))), .second] [(.long ((r.toInt64) * (k'.toInt64))), (.long ((c'.toInt64) * (k'.toInt64)))])) (fun _ k => XS.lload X0.here hx rfl (hb hby d2_48) rfl k) ?_
            refine Go.back (f' := (mkF m 51 #[.val (.int r), .val (.int c'), .val (.int k'), .val (.long ((c'.toInt64) * (k'.toInt64))), .second, .val (.long ((r.toInt64) * (k'.toInt64))), .second] [(.long (((c'.toInt64) * (k'.toInt64)) * ((r.toInt64) * (k'.toInt64))))])) (fun _ k => XS.lmul X0.here hx rfl (hb hby d2_50) rfl k) ?_
            refine Go.back (f' := (mkF m 54 #[.val (.int r), .val (.int c'), .val (.int k'), .val (.long ((c'.toInt64) * (k'.toInt64))), .second, .val (.long ((r.toInt64) * (k'.toInt64))), .second] [(.long (2147483639 : Int64)), (.long (((c'.toInt64) * (k'.toInt64)) * ((r.toInt64) * (k'.toInt64))))])) (fun _ k => X0.ldc2Long hx hown (mvT hZ (hw _ (List.mem_of_getElem? (i := 11) rfl))) (g := (mkF m 51 #[.val (.int r), .val (.int c'), .val (.int k'), .val (.long ((c'.toInt64) * (k'.toInt64))), .second, .val (.long ((r.toInt64) * (k'.toInt64))), .second] [(.long (((c'.toInt64) * (k'.toInt64)) * ((r.toInt64) * (k'.toInt64))))])) rfl (hb hby d2_51) _ k) ?_
            refine Go.back (f' := (mkF m 55 #[.val (.int r), .val (.int c'), .val (.int k'), .val (.long ((c'.toInt64) * (k'.toInt64))), .second, .val (.long ((r.toInt64) * (k'.toInt64))), .second] [(.int (lcmpW (((c'.toInt64) * (k'.toInt64)) * ((r.toInt64) * (k'.toInt64))) (2147483639 : Int64)))])) (fun _ k => XS.lcmp X0.here hx rfl (hb hby d2_54) rfl k) ?_
            by_cases h6 : (2147483639 : Int64) < (((c'.toInt64) * (k'.toInt64)) * ((r.toInt64) * (k'.toInt64)))
            · refine Go.back (f' := (mkF m 62 #[.val (.int r), .val (.int c'), .val (.int k'), .val (.long ((c'.toInt64) * (k'.toInt64))), .second, .val (.long ((r.toInt64) * (k'.toInt64))), .second] [])) (fun _ k => XS.ifYes X0.here hx rfl (pc0 := 55) (pc' := 62) rfl (hb hby d2_55) rfl (l_gt_t h6) (by decide) (by decide) k) ?_
              refine Go.back (f' := (mkF m 63 #[.val (.int r), .val (.int c'), .val (.int k'), .val (.long ((c'.toInt64) * (k'.toInt64))), .second, .val (.long ((r.toInt64) * (k'.toInt64))), .second] [(.int (0 : Int32))])) (fun _ k => XS.iconst X0.here hx rfl (hb hby d2_62) k) ?_
              exact Go.retN X0 hx (t := .boolean) hret (by simp) (w := (0 : Int32)) rfl hlk (hb hby d2_63) (by (try rw [e0]); exact ⟨by rw [own_b0 fun q => (own_prod h1 h2 h3 h4 h5).mp q h6], rfl, rfl⟩) (Nat.zero_le _) (Nat.zero_le _)
            · refine Go.back (f' := (mkF m 58 #[.val (.int r), .val (.int c'), .val (.int k'), .val (.long ((c'.toInt64) * (k'.toInt64))), .second, .val (.long ((r.toInt64) * (k'.toInt64))), .second] [])) (fun _ k => XS.ifNo X0.here hx rfl (hb hby d2_55) rfl (l_gt_f h6) k) ?_
              refine Go.back (f' := (mkF m 59 #[.val (.int r), .val (.int c'), .val (.int k'), .val (.long ((c'.toInt64) * (k'.toInt64))), .second, .val (.long ((r.toInt64) * (k'.toInt64))), .second] [(.int (1 : Int32))])) (fun _ k => XS.iconst X0.here hx rfl (hb hby d2_58) k) ?_
              refine Go.back (f' := (mkF m 63 #[.val (.int r), .val (.int c'), .val (.int k'), .val (.long ((c'.toInt64) * (k'.toInt64))), .second, .val (.long ((r.toInt64) * (k'.toInt64))), .second] [(.int (1 : Int32))])) (fun _ k => XS.goto X0.here hx rfl (pc0 := 59) (pc' := 63) rfl (hb hby d2_59) (by decide) (by decide) k) ?_
              exact Go.retN X0 hx (t := .boolean) hret (by simp) (w := (1 : Int32)) rfl hlk (hb hby d2_63) (by (try rw [e0]); exact ⟨by rw [own_b1 ((own_prod h1 h2 h3 h4 h5).mpr h6)], rfl, rfl⟩) (Nat.zero_le _) (Nat.zero_le _)
theorem ef_rm0 (m : MethodId) (x0 : Int32) (x1 : Int32) (x2 : Int32) (x3 : Int32) (x4 : Int32) : entryFrame m #[(.int x0), (.int x1), (.int x2), (.int x3), (.int x4)] maxLocals = mkF m 0 #[.val (.int x0), .val (.int x1), .val (.int x2), .val (.int x3), .val (.int x4), .unset, .unset, .unset, .unset, .unset, .unset, .unset] [] := by first | (simp [entryFrame, mkF, argsToLocals, Value.category, maxLocals]; done) | rfl
set_option maxRecDepth 65536 in
set_option maxHeartbeats 40000000 in
theorem rm0 (l : Launch) (Z : State) (a0 : Array Value) (hw : ∀ d ∈ tables_1, d.before a0 Z = true) (rw_ cl_ ce_ md de : Int32) (n0 : Nat) (h0 : Heap)  :
    Met l Z x code maxLocals ret room_1 #[(.int rw_), (.int cl_), (.int ce_), (.int md), (.int de)] h0 (fun v h L => v = some (.int 1) ∧ Fr n0 L) := by
  refine Met.intro (plainFor_of_name (by first | (simp [plainName, overriddenIn]; done) | decide +kernel)) ?_
  intro p e s m below meth c T0 hx hby hml hown hnm hret hlk hZ X0 e0
  refine Go.cast (ef_rm0 m rw_ cl_ ce_ md de) ?_
  have hml : c.maxLocals = 12 := hml
  refine Go.back (f' := (mkF m 1 #[.val (.int rw_), .val (.int cl_), .val (.int ce_), .val (.int md), .val (.int de), .unset, .unset, .unset, .unset, .unset, .unset, .unset] [(.int rw_)])) (fun _ k => XS.iloadN X0.here hx rfl (hb hby at_0) rfl k) ?_
  refine Go.back (f' := (mkF m 3 #[.val (.int rw_), .val (.int cl_), .val (.int ce_), .val (.int md), .val (.int de), .val (.int rw_), .unset, .unset, .unset, .unset, .unset, .unset] [])) (fun _ k => XS.istore X0.here hx rfl (hb hby at_1) rfl (l' := #[.val (.int rw_), .val (.int cl_), .val (.int ce_), .val (.int md), .val (.int de), .val (.int rw_), .unset, .unset, .unset, .unset, .unset, .unset]) rfl k) ?_
  refine Go.back (f' := (mkF m 4 #[.val (.int rw_), .val (.int cl_), .val (.int ce_), .val (.int md), .val (.int de), .val (.int rw_), .unset, .unset, .unset, .unset, .unset, .unset] [(.int cl_)])) (fun _ k => XS.iloadN X0.here hx rfl (hb hby at_3) rfl k) ?_
  refine Go.back (f' := (mkF m 6 #[.val (.int rw_), .val (.int cl_), .val (.int ce_), .val (.int md), .val (.int de), .val (.int rw_), .val (.int cl_), .unset, .unset, .unset, .unset, .unset] [])) (fun _ k => XS.istore X0.here hx rfl (hb hby at_4) rfl (l' := #[.val (.int rw_), .val (.int cl_), .val (.int ce_), .val (.int md), .val (.int de), .val (.int rw_), .val (.int cl_), .unset, .unset, .unset, .unset, .unset]) rfl k) ?_
  refine Go.back (f' := (mkF m 7 #[.val (.int rw_), .val (.int cl_), .val (.int ce_), .val (.int md), .val (.int de), .val (.int rw_), .val (.int cl_), .unset, .unset, .unset, .unset, .unset] [(.int ce_)])) (fun _ k => XS.iloadN X0.here hx rfl (hb hby at_6) rfl k) ?_
  refine Go.back (f' := (mkF m 9 #[.val (.int rw_), .val (.int cl_), .val (.int ce_), .val (.int md), .val (.int de), .val (.int rw_), .val (.int cl_), .val (.int ce_), .unset, .unset, .unset, .unset] [])) (fun _ k => XS.istore X0.here hx rfl (hb hby at_7) rfl (l' := #[.val (.int rw_), .val (.int cl_), .val (.int ce_), .val (.int md), .val (.int de), .val (.int rw_), .val (.int cl_), .val (.int ce_), .unset, .unset, .unset, .unset]) rfl k) ?_
  refine Go.back (f' := (mkF m 10 #[.val (.int rw_), .val (.int cl_), .val (.int ce_), .val (.int md), .val (.int de), .val (.int rw_), .val (.int cl_), .val (.int ce_), .unset, .unset, .unset, .unset] [(.int md)])) (fun _ k => XS.iloadN X0.here hx rfl (hb hby at_9) rfl k) ?_
  refine Go.back (f' := (mkF m 11 #[.val (.int rw_), .val (.int cl_), .val (.int ce_), .val (.int md), .val (.int de), .val (.int rw_), .val (.int cl_), .val (.int ce_), .unset, .unset, .unset, .unset] [(.int (3 : Int32)), (.int md)])) (fun _ k => XS.iconst X0.here hx rfl (hb hby at_10) k) ?_
  refine Go.back (f' := (mkF m 12 #[.val (.int rw_), .val (.int cl_), .val (.int ce_), .val (.int md), .val (.int de), .val (.int rw_), .val (.int cl_), .val (.int ce_), .unset, .unset, .unset, .unset] [(.int (md &&& (3 : Int32)))])) (fun _ k => XS.iand X0.here hx rfl (hb hby at_11) rfl k) ?_
  refine Go.back (f' := (mkF m 14 #[.val (.int rw_), .val (.int cl_), .val (.int ce_), .val (.int md), .val (.int de), .val (.int rw_), .val (.int cl_), .val (.int ce_), .val (.int (md &&& (3 : Int32))), .unset, .unset, .unset] [])) (fun _ k => XS.istore X0.here hx rfl (hb hby at_12) rfl (l' := #[.val (.int rw_), .val (.int cl_), .val (.int ce_), .val (.int md), .val (.int de), .val (.int rw_), .val (.int cl_), .val (.int ce_), .val (.int (md &&& (3 : Int32))), .unset, .unset, .unset]) rfl k) ?_
  refine Go.back (f' := (mkF m 16 #[.val (.int rw_), .val (.int cl_), .val (.int ce_), .val (.int md), .val (.int de), .val (.int rw_), .val (.int cl_), .val (.int ce_), .val (.int (md &&& (3 : Int32))), .unset, .unset, .unset] [(.int de)])) (fun _ k => XS.iload X0.here hx rfl (hb hby at_14) rfl k) ?_
  refine Go.back (f' := (mkF m 17 #[.val (.int rw_), .val (.int cl_), .val (.int ce_), .val (.int md), .val (.int de), .val (.int rw_), .val (.int cl_), .val (.int ce_), .val (.int (md &&& (3 : Int32))), .unset, .unset, .unset] [(.int (2 : Int32)), (.int de)])) (fun _ k => XS.iconst X0.here hx rfl (hb hby at_16) k) ?_
  refine Go.back (f' := (mkF m 18 #[.val (.int rw_), .val (.int cl_), .val (.int ce_), .val (.int md), .val (.int de), .val (.int rw_), .val (.int cl_), .val (.int ce_), .val (.int (md &&& (3 : Int32))), .unset, .unset, .unset] [(.int (de % (2 : Int32)))])) (fun _ k => iremM X0 hx rfl (hb hby at_17) rfl (by decide) k) ?_
  refine Go.back (f' := (mkF m 20 #[.val (.int rw_), .val (.int cl_), .val (.int ce_), .val (.int md), .val (.int de), .val (.int rw_), .val (.int cl_), .val (.int ce_), .val (.int (md &&& (3 : Int32))), .val (.int (de % (2 : Int32))), .unset, .unset] [])) (fun _ k => XS.istore X0.here hx rfl (hb hby at_18) rfl (l' := #[.val (.int rw_), .val (.int cl_), .val (.int ce_), .val (.int md), .val (.int de), .val (.int rw_), .val (.int cl_), .val (.int ce_), .val (.int (md &&& (3 : Int32))), .val (.int (de % (2 : Int32))), .unset, .unset]) rfl k) ?_
  refine Go.back (f' := (mkF m 22 #[.val (.int rw_), .val (.int cl_), .val (.int ce_), .val (.int md), .val (.int de), .val (.int rw_), .val (.int cl_), .val (.int ce_), .val (.int (md &&& (3 : Int32))), .val (.int (de % (2 : Int32))), .unset, .unset] [(.int (md &&& (3 : Int32)))])) (fun _ k => XS.iload X0.here hx rfl (hb hby at_20) rfl k) ?_
  refine Go.back (f' := (mkF m 23 #[.val (.int rw_), .val (.int cl_), .val (.int ce_), .val (.int md), .val (.int de), .val (.int rw_), .val (.int cl_), .val (.int ce_), .val (.int (md &&& (3 : Int32))), .val (.int (de % (2 : Int32))), .unset, .unset] [(.int (1 : Int32)), (.int (md &&& (3 : Int32)))])) (fun _ k => XS.iconst X0.here hx rfl (hb hby at_22) k) ?_
  generalize em : (md &&& (3 : Int32)) = mm
  by_cases h1 : mm = (1 : Int32)
  · refine Go.back (f' := (mkF m 26 #[.val (.int rw_), .val (.int cl_), .val (.int ce_), .val (.int md), .val (.int de), .val (.int rw_), .val (.int cl_), .val (.int ce_), .val (.int mm), .val (.int (de % (2 : Int32))), .unset, .unset] [])) (fun _ k => XS.icmpNo X0.here hx rfl (hb hby at_23) rfl (teq h1).2 k) ?_
    refine Go.back (f' := (mkF m 28 #[.val (.int rw_), .val (.int cl_), .val (.int ce_), .val (.int md), .val (.int de), .val (.int rw_), .val (.int cl_), .val (.int ce_), .val (.int mm), .val (.int (de % (2 : Int32))), .unset, .unset] [(.int cl_)])) (fun _ k => XS.iload X0.here hx rfl (hb hby at_26) rfl k) ?_
    refine Go.back (f' := (mkF m 29 #[.val (.int rw_), .val (.int cl_), .val (.int ce_), .val (.int md), .val (.int de), .val (.int rw_), .val (.int cl_), .val (.int ce_), .val (.int mm), .val (.int (de % (2 : Int32))), .unset, .unset] [(.int (1 : Int32)), (.int cl_)])) (fun _ k => XS.iconst X0.here hx rfl (hb hby at_28) k) ?_
    by_cases h2 : cl_ < (1 : Int32)
    · refine Go.back (f' := (mkF m 67 #[.val (.int rw_), .val (.int cl_), .val (.int ce_), .val (.int md), .val (.int de), .val (.int rw_), .val (.int cl_), .val (.int ce_), .val (.int mm), .val (.int (de % (2 : Int32))), .unset, .unset] [])) (fun _ k => XS.icmpYes X0.here hx rfl (pc0 := 29) (pc' := 67) rfl (hb hby at_29) rfl (tlt h2).1 (by decide) (by decide) k) ?_
      refine Go.back (f' := (mkF m 69 #[.val (.int rw_), .val (.int cl_), .val (.int ce_), .val (.int md), .val (.int de), .val (.int rw_), .val (.int cl_), .val (.int ce_), .val (.int mm), .val (.int (de % (2 : Int32))), .unset, .unset] [(.int mm)])) (fun _ k => XS.iload X0.here hx rfl (hb hby at_67) rfl k) ?_
      refine Go.back (f' := (mkF m 70 #[.val (.int rw_), .val (.int cl_), .val (.int ce_), .val (.int md), .val (.int de), .val (.int rw_), .val (.int cl_), .val (.int ce_), .val (.int mm), .val (.int (de % (2 : Int32))), .unset, .unset] [(.int (2 : Int32)), (.int mm)])) (fun _ k => XS.iconst X0.here hx rfl (hb hby at_69) k) ?_
      by_cases g1 : mm = (2 : Int32)
      · refine Go.back (f' := (mkF m 73 #[.val (.int rw_), .val (.int cl_), .val (.int ce_), .val (.int md), .val (.int de), .val (.int rw_), .val (.int cl_), .val (.int ce_), .val (.int mm), .val (.int (de % (2 : Int32))), .unset, .unset] [])) (fun _ k => XS.icmpNo X0.here hx rfl (hb hby at_70) rfl (teq g1).2 k) ?_
        refine Go.back (f' := (mkF m 75 #[.val (.int rw_), .val (.int cl_), .val (.int ce_), .val (.int md), .val (.int de), .val (.int rw_), .val (.int cl_), .val (.int ce_), .val (.int mm), .val (.int (de % (2 : Int32))), .unset, .unset] [(.int ce_)])) (fun _ k => XS.iload X0.here hx rfl (hb hby at_73) rfl k) ?_
        refine Go.back (f' := (mkF m 76 #[.val (.int rw_), .val (.int cl_), .val (.int ce_), .val (.int md), .val (.int de), .val (.int rw_), .val (.int cl_), .val (.int ce_), .val (.int mm), .val (.int (de % (2 : Int32))), .unset, .unset] [(.int (1 : Int32)), (.int ce_)])) (fun _ k => XS.iconst X0.here hx rfl (hb hby at_75) k) ?_
        by_cases g2 : ce_ < (1 : Int32)
        · refine Go.back (f' := (mkF m 93 #[.val (.int rw_), .val (.int cl_), .val (.int ce_), .val (.int md), .val (.int de), .val (.int rw_), .val (.int cl_), .val (.int ce_), .val (.int mm), .val (.int (de % (2 : Int32))), .unset, .unset] [])) (fun _ k => XS.icmpYes X0.here hx rfl (pc0 := 76) (pc' := 93) rfl (hb hby at_76) rfl (tlt g2).1 (by decide) (by decide) k) ?_
          refine Go.back (f' := (mkF m 95 #[.val (.int rw_), .val (.int cl_), .val (.int ce_), .val (.int md), .val (.int de), .val (.int rw_), .val (.int cl_), .val (.int ce_), .val (.int mm), .val (.int (de % (2 : Int32))), .unset, .unset] [(.int rw_)])) (fun _ k => XS.iload X0.here hx rfl (hb hby at_93) rfl k) ?_
          refine Go.back (f' := (mkF m 97 #[.val (.int rw_), .val (.int cl_), .val (.int ce_), .val (.int md), .val (.int de), .val (.int rw_), .val (.int cl_), .val (.int ce_), .val (.int mm), .val (.int (de % (2 : Int32))), .unset, .unset] [(.int cl_), (.int rw_)])) (fun _ k => XS.iload X0.here hx rfl (hb hby at_95) rfl k) ?_
          refine Go.back (f' := (mkF m 99 #[.val (.int rw_), .val (.int cl_), .val (.int ce_), .val (.int md), .val (.int de), .val (.int rw_), .val (.int cl_), .val (.int ce_), .val (.int mm), .val (.int (de % (2 : Int32))), .unset, .unset] [(.int ce_), (.int cl_), (.int rw_)])) (fun _ k => XS.iload X0.here hx rfl (hb hby at_97) rfl k) ?_
          refine Go.callS X0 hx hZ hown (hw _ (List.mem_of_getElem? (i := 1) rfl)) (hw _ (List.mem_of_getElem? (i := 2) rfl)) (hw _ (List.mem_of_getElem? (i := 3) rfl)) (hw _ (List.mem_of_getElem? (i := 4) rfl)) (by decide) e0 (argsL := [(.int rw_), (.int cl_), (.int ce_)]) (rest := []) (rm1 l Z a0 hw rw_ cl_ ce_ h0) (lenOf pd_0 rfl) rfl (by rw [hml]; rfl) (W := 0) (Nat.le_of_eq rfl) (hb hby at_99) (by decide) (by decide) (by decide) (by decide) ?_
          intro v1 T1 L1 X1 hQ1
          obtain ⟨rfl, rfl, hh1⟩ := hQ1
          show GoG _ _ _ _ _ (mkF m 102 #[.val (.int rw_), .val (.int cl_), .val (.int ce_), .val (.int md), .val (.int de), .val (.int rw_), .val (.int cl_), .val (.int ce_), .val (.int mm), .val (.int (de % (2 : Int32))), .unset, .unset] [(.int (own_b rw_ cl_ ce_))])
          refine Go.back (f' := (mkF m 104 #[.val (.int rw_), .val (.int cl_), .val (.int ce_), .val (.int md), .val (.int de), .val (.int rw_), .val (.int cl_), .val (.int ce_), .val (.int mm), .val (.int (de % (2 : Int32))), .val (.int (own_b rw_ cl_ ce_)), .unset] [])) (fun _ k => XS.istore X1.here hx rfl (hb hby at_102) rfl (l' := #[.val (.int rw_), .val (.int cl_), .val (.int ce_), .val (.int md), .val (.int de), .val (.int rw_), .val (.int cl_), .val (.int ce_), .val (.int mm), .val (.int (de % (2 : Int32))), .val (.int (own_b rw_ cl_ ce_)), .unset]) rfl k) ?_
          refine Go.back (f' := (mkF m 106 #[.val (.int rw_), .val (.int cl_), .val (.int ce_), .val (.int md), .val (.int de), .val (.int rw_), .val (.int cl_), .val (.int ce_), .val (.int mm), .val (.int (de % (2 : Int32))), .val (.int (own_b rw_ cl_ ce_)), .unset] [(.int rw_)])) (fun _ k => XS.iload X1.here hx rfl (hb hby at_104) rfl k) ?_
          refine Go.back (f' := (mkF m 108 #[.val (.int rw_), .val (.int cl_), .val (.int ce_), .val (.int md), .val (.int de), .val (.int rw_), .val (.int cl_), .val (.int ce_), .val (.int mm), .val (.int (de % (2 : Int32))), .val (.int (own_b rw_ cl_ ce_)), .unset] [(.int cl_), (.int rw_)])) (fun _ k => XS.iload X1.here hx rfl (hb hby at_106) rfl k) ?_
          refine Go.back (f' := (mkF m 110 #[.val (.int rw_), .val (.int cl_), .val (.int ce_), .val (.int md), .val (.int de), .val (.int rw_), .val (.int cl_), .val (.int ce_), .val (.int mm), .val (.int (de % (2 : Int32))), .val (.int (own_b rw_ cl_ ce_)), .unset] [(.int ce_), (.int cl_), (.int rw_)])) (fun _ k => XS.iload X1.here hx rfl (hb hby at_108) rfl k) ?_
          refine Go.callS X1 hx hZ hown (hw _ (List.mem_of_getElem? (i := 6) rfl)) (hw _ (List.mem_of_getElem? (i := 7) rfl)) (hw _ (List.mem_of_getElem? (i := 8) rfl)) (hw _ (List.mem_of_getElem? (i := 9) rfl)) (by decide) hh1 (argsL := [(.int rw_), (.int cl_), (.int ce_)]) (rest := []) (rm2 l Z a0 hw rw_ cl_ ce_ h0) (lenOf pd_0 rfl) rfl (by rw [hml]; rfl) (W := 0) (Nat.le_of_eq rfl) (hb hby at_110) (by decide) (by decide) (by decide) (by decide) ?_
          intro v2 T2 L2 X2 hQ2
          obtain ⟨rfl, rfl, hh2⟩ := hQ2
          show GoG _ _ _ _ _ (mkF m 113 #[.val (.int rw_), .val (.int cl_), .val (.int ce_), .val (.int md), .val (.int de), .val (.int rw_), .val (.int cl_), .val (.int ce_), .val (.int mm), .val (.int (de % (2 : Int32))), .val (.int (own_b rw_ cl_ ce_)), .unset] [(.int (own_b rw_ cl_ ce_))])
          refine Go.back (f' := (mkF m 115 #[.val (.int rw_), .val (.int cl_), .val (.int ce_), .val (.int md), .val (.int de), .val (.int rw_), .val (.int cl_), .val (.int ce_), .val (.int mm), .val (.int (de % (2 : Int32))), .val (.int (own_b rw_ cl_ ce_)), .unset] [(.int (own_b rw_ cl_ ce_)), (.int (own_b rw_ cl_ ce_))])) (fun _ k => XS.iload X2.here hx rfl (hb hby at_113) rfl k) ?_
          refine Go.back (f' := (mkF m 118 #[.val (.int rw_), .val (.int cl_), .val (.int ce_), .val (.int md), .val (.int de), .val (.int rw_), .val (.int cl_), .val (.int ce_), .val (.int mm), .val (.int (de % (2 : Int32))), .val (.int (own_b rw_ cl_ ce_)), .unset] [])) (fun _ k => XS.icmpNo X2.here hx rfl (hb hby at_115) rfl (teq rfl).2 k) ?_
          refine Go.back (f' := (mkF m 119 #[.val (.int rw_), .val (.int cl_), .val (.int ce_), .val (.int md), .val (.int de), .val (.int rw_), .val (.int cl_), .val (.int ce_), .val (.int mm), .val (.int (de % (2 : Int32))), .val (.int (own_b rw_ cl_ ce_)), .unset] [(.int (1 : Int32))])) (fun _ k => XS.iconst X2.here hx rfl (hb hby at_118) k) ?_
          refine Go.back (f' := (mkF m 123 #[.val (.int rw_), .val (.int cl_), .val (.int ce_), .val (.int md), .val (.int de), .val (.int rw_), .val (.int cl_), .val (.int ce_), .val (.int mm), .val (.int (de % (2 : Int32))), .val (.int (own_b rw_ cl_ ce_)), .unset] [(.int (1 : Int32))])) (fun _ k => XS.goto X2.here hx rfl (pc0 := 119) (pc' := 123) rfl (hb hby at_119) (by decide) (by decide) k) ?_
          exact Go.retN X2 hx (t := .boolean) hret (by simp) (w := (1 : Int32)) rfl hlk (hb hby at_123) (by (try rw [hh2]); exact ⟨rfl, Fr.nil _⟩) (Nat.zero_le _) (Nat.zero_le _)
        · refine Go.back (f' := (mkF m 79 #[.val (.int rw_), .val (.int cl_), .val (.int ce_), .val (.int md), .val (.int de), .val (.int rw_), .val (.int cl_), .val (.int ce_), .val (.int mm), .val (.int (de % (2 : Int32))), .unset, .unset] [])) (fun _ k => XS.icmpNo X0.here hx rfl (hb hby at_76) rfl (flt g2).1 k) ?_
          refine Go.back (f' := (mkF m 82 #[.val (.int rw_), .val (.int cl_), .val (.int ce_), .val (.int md), .val (.int de), .val (.int rw_), .val (.int cl_), .val (.int ce_), .val (.int mm), .val (.int (de % (2 : Int32))), .unset, .unset] [(.long (715827879 : Int64))])) (fun _ k => X0.ldc2Long hx hown (mvT hZ (hw _ (List.mem_of_getElem? (i := 5) rfl))) (g := (mkF m 79 #[.val (.int rw_), .val (.int cl_), .val (.int ce_), .val (.int md), .val (.int de), .val (.int rw_), .val (.int cl_), .val (.int ce_), .val (.int mm), .val (.int (de % (2 : Int32))), .unset, .unset] [])) rfl (hb hby at_79) _ k) ?_
          refine Go.back (f' := (mkF m 84 #[.val (.int rw_), .val (.int cl_), .val (.int ce_), .val (.int md), .val (.int de), .val (.int rw_), .val (.int cl_), .val (.int ce_), .val (.int mm), .val (.int (de % (2 : Int32))), .unset, .unset] [(.int ce_), (.long (715827879 : Int64))])) (fun _ k => XS.iload X0.here hx rfl (hb hby at_82) rfl k) ?_
          refine Go.back (f' := (mkF m 85 #[.val (.int rw_), .val (.int cl_), .val (.int ce_), .val (.int md), .val (.int de), .val (.int rw_), .val (.int cl_), .val (.int ce_), .val (.int mm), .val (.int (de % (2 : Int32))), .unset, .unset] [(.long (ce_.toInt64)), (.long (715827879 : Int64))])) (fun _ k => XS.i2l X0.here hx rfl (hb hby at_84) rfl k) ?_
          refine Go.back (f' := (mkF m 86 #[.val (.int rw_), .val (.int cl_), .val (.int ce_), .val (.int md), .val (.int de), .val (.int rw_), .val (.int cl_), .val (.int ce_), .val (.int mm), .val (.int (de % (2 : Int32))), .unset, .unset] [(.long ((715827879 : Int64) / (ce_.toInt64)))])) (fun _ k => XS.ldiv X0.here hx rfl (hb hby at_85) rfl (own_nz2 g2) k) ?_
          refine Go.back (f' := (mkF m 88 #[.val (.int rw_), .val (.int cl_), .val (.int ce_), .val (.int md), .val (.int de), .val (.int rw_), .val (.int cl_), .val (.int ce_), .val (.int mm), .val (.int (de % (2 : Int32))), .unset, .unset] [(.int (de % (2 : Int32))), (.long ((715827879 : Int64) / (ce_.toInt64)))])) (fun _ k => XS.iload X0.here hx rfl (hb hby at_86) rfl k) ?_
          refine Go.back (f' := (mkF m 89 #[.val (.int rw_), .val (.int cl_), .val (.int ce_), .val (.int md), .val (.int de), .val (.int rw_), .val (.int cl_), .val (.int ce_), .val (.int mm), .val (.int (de % (2 : Int32))), .unset, .unset] [(.long ((de % (2 : Int32)).toInt64)), (.long ((715827879 : Int64) / (ce_.toInt64)))])) (fun _ k => XS.i2l X0.here hx rfl (hb hby at_88) rfl k) ?_
          refine Go.back (f' := (mkF m 90 #[.val (.int rw_), .val (.int cl_), .val (.int ce_), .val (.int md), .val (.int de), .val (.int rw_), .val (.int cl_), .val (.int ce_), .val (.int mm), .val (.int (de % (2 : Int32))), .unset, .unset] [(.long (((715827879 : Int64) / (ce_.toInt64)) + ((de % (2 : Int32)).toInt64)))])) (fun _ k => XS.ladd X0.here hx rfl (hb hby at_89) rfl k) ?_
          refine Go.back (f' := (mkF m 91 #[.val (.int rw_), .val (.int cl_), .val (.int ce_), .val (.int md), .val (.int de), .val (.int rw_), .val (.int cl_), .val (.int ce_), .val (.int mm), .val (.int (de % (2 : Int32))), .unset, .unset] [(.int ((((715827879 : Int64) / (ce_.toInt64)) + ((de % (2 : Int32)).toInt64)).toInt32))])) (fun _ k => XS.l2i X0.here hx rfl (hb hby at_90) rfl k) ?_
          refine Go.back (f' := (mkF m 93 #[.val (.int rw_), .val (.int cl_), .val (.int ce_), .val (.int md), .val (.int de), .val (.int rw_), .val (.int ((((715827879 : Int64) / (ce_.toInt64)) + ((de % (2 : Int32)).toInt64)).toInt32)), .val (.int ce_), .val (.int mm), .val (.int (de % (2 : Int32))), .unset, .unset] [])) (fun _ k => XS.istore X0.here hx rfl (hb hby at_91) rfl (l' := #[.val (.int rw_), .val (.int cl_), .val (.int ce_), .val (.int md), .val (.int de), .val (.int rw_), .val (.int ((((715827879 : Int64) / (ce_.toInt64)) + ((de % (2 : Int32)).toInt64)).toInt32)), .val (.int ce_), .val (.int mm), .val (.int (de % (2 : Int32))), .unset, .unset]) rfl k) ?_
          refine Go.back (f' := (mkF m 95 #[.val (.int rw_), .val (.int cl_), .val (.int ce_), .val (.int md), .val (.int de), .val (.int rw_), .val (.int ((((715827879 : Int64) / (ce_.toInt64)) + ((de % (2 : Int32)).toInt64)).toInt32)), .val (.int ce_), .val (.int mm), .val (.int (de % (2 : Int32))), .unset, .unset] [(.int rw_)])) (fun _ k => XS.iload X0.here hx rfl (hb hby at_93) rfl k) ?_
          refine Go.back (f' := (mkF m 97 #[.val (.int rw_), .val (.int cl_), .val (.int ce_), .val (.int md), .val (.int de), .val (.int rw_), .val (.int ((((715827879 : Int64) / (ce_.toInt64)) + ((de % (2 : Int32)).toInt64)).toInt32)), .val (.int ce_), .val (.int mm), .val (.int (de % (2 : Int32))), .unset, .unset] [(.int ((((715827879 : Int64) / (ce_.toInt64)) + ((de % (2 : Int32)).toInt64)).toInt32)), (.int rw_)])) (fun _ k => XS.iload X0.here hx rfl (hb hby at_95) rfl k) ?_
          refine Go.back (f' := (mkF m 99 #[.val (.int rw_), .val (.int cl_), .val (.int ce_), .val (.int md), .val (.int de), .val (.int rw_), .val (.int ((((715827879 : Int64) / (ce_.toInt64)) + ((de % (2 : Int32)).toInt64)).toInt32)), .val (.int ce_), .val (.int mm), .val (.int (de % (2 : Int32))), .unset, .unset] [(.int ce_), (.int ((((715827879 : Int64) / (ce_.toInt64)) + ((de % (2 : Int32)).toInt64)).toInt32)), (.int rw_)])) (fun _ k => XS.iload X0.here hx rfl (hb hby at_97) rfl k) ?_
          generalize ec : ((((715827879 : Int64) / (ce_.toInt64)) + ((de % (2 : Int32)).toInt64)).toInt32) = c'
          refine Go.callS X0 hx hZ hown (hw _ (List.mem_of_getElem? (i := 1) rfl)) (hw _ (List.mem_of_getElem? (i := 2) rfl)) (hw _ (List.mem_of_getElem? (i := 3) rfl)) (hw _ (List.mem_of_getElem? (i := 4) rfl)) (by decide) e0 (argsL := [(.int rw_), (.int c'), (.int ce_)]) (rest := []) (rm1 l Z a0 hw rw_ c' ce_ h0) (lenOf pd_0 rfl) rfl (by rw [hml]; rfl) (W := 0) (Nat.le_of_eq rfl) (hb hby at_99) (by decide) (by decide) (by decide) (by decide) ?_
          intro v1 T1 L1 X1 hQ1
          obtain ⟨rfl, rfl, hh1⟩ := hQ1
          show GoG _ _ _ _ _ (mkF m 102 #[.val (.int rw_), .val (.int cl_), .val (.int ce_), .val (.int md), .val (.int de), .val (.int rw_), .val (.int c'), .val (.int ce_), .val (.int mm), .val (.int (de % (2 : Int32))), .unset, .unset] [(.int (own_b rw_ c' ce_))])
          refine Go.back (f' := (mkF m 104 #[.val (.int rw_), .val (.int cl_), .val (.int ce_), .val (.int md), .val (.int de), .val (.int rw_), .val (.int c'), .val (.int ce_), .val (.int mm), .val (.int (de % (2 : Int32))), .val (.int (own_b rw_ c' ce_)), .unset] [])) (fun _ k => XS.istore X1.here hx rfl (hb hby at_102) rfl (l' := #[.val (.int rw_), .val (.int cl_), .val (.int ce_), .val (.int md), .val (.int de), .val (.int rw_), .val (.int c'), .val (.int ce_), .val (.int mm), .val (.int (de % (2 : Int32))), .val (.int (own_b rw_ c' ce_)), .unset]) rfl k) ?_
          refine Go.back (f' := (mkF m 106 #[.val (.int rw_), .val (.int cl_), .val (.int ce_), .val (.int md), .val (.int de), .val (.int rw_), .val (.int c'), .val (.int ce_), .val (.int mm), .val (.int (de % (2 : Int32))), .val (.int (own_b rw_ c' ce_)), .unset] [(.int rw_)])) (fun _ k => XS.iload X1.here hx rfl (hb hby at_104) rfl k) ?_
          refine Go.back (f' := (mkF m 108 #[.val (.int rw_), .val (.int cl_), .val (.int ce_), .val (.int md), .val (.int de), .val (.int rw_), .val (.int c'), .val (.int ce_), .val (.int mm), .val (.int (de % (2 : Int32))), .val (.int (own_b rw_ c' ce_)), .unset] [(.int c'), (.int rw_)])) (fun _ k => XS.iload X1.here hx rfl (hb hby at_106) rfl k) ?_
          refine Go.back (f' := (mkF m 110 #[.val (.int rw_), .val (.int cl_), .val (.int ce_), .val (.int md), .val (.int de), .val (.int rw_), .val (.int c'), .val (.int ce_), .val (.int mm), .val (.int (de % (2 : Int32))), .val (.int (own_b rw_ c' ce_)), .unset] [(.int ce_), (.int c'), (.int rw_)])) (fun _ k => XS.iload X1.here hx rfl (hb hby at_108) rfl k) ?_
          refine Go.callS X1 hx hZ hown (hw _ (List.mem_of_getElem? (i := 6) rfl)) (hw _ (List.mem_of_getElem? (i := 7) rfl)) (hw _ (List.mem_of_getElem? (i := 8) rfl)) (hw _ (List.mem_of_getElem? (i := 9) rfl)) (by decide) hh1 (argsL := [(.int rw_), (.int c'), (.int ce_)]) (rest := []) (rm2 l Z a0 hw rw_ c' ce_ h0) (lenOf pd_0 rfl) rfl (by rw [hml]; rfl) (W := 0) (Nat.le_of_eq rfl) (hb hby at_110) (by decide) (by decide) (by decide) (by decide) ?_
          intro v2 T2 L2 X2 hQ2
          obtain ⟨rfl, rfl, hh2⟩ := hQ2
          show GoG _ _ _ _ _ (mkF m 113 #[.val (.int rw_), .val (.int cl_), .val (.int ce_), .val (.int md), .val (.int de), .val (.int rw_), .val (.int c'), .val (.int ce_), .val (.int mm), .val (.int (de % (2 : Int32))), .val (.int (own_b rw_ c' ce_)), .unset] [(.int (own_b rw_ c' ce_))])
          refine Go.back (f' := (mkF m 115 #[.val (.int rw_), .val (.int cl_), .val (.int ce_), .val (.int md), .val (.int de), .val (.int rw_), .val (.int c'), .val (.int ce_), .val (.int mm), .val (.int (de % (2 : Int32))), .val (.int (own_b rw_ c' ce_)), .unset] [(.int (own_b rw_ c' ce_)), (.int (own_b rw_ c' ce_))])) (fun _ k => XS.iload X2.here hx rfl (hb hby at_113) rfl k) ?_
          refine Go.back (f' := (mkF m 118 #[.val (.int rw_), .val (.int cl_), .val (.int ce_), .val (.int md), .val (.int de), .val (.int rw_), .val (.int c'), .val (.int ce_), .val (.int mm), .val (.int (de % (2 : Int32))), .val (.int (own_b rw_ c' ce_)), .unset] [])) (fun _ k => XS.icmpNo X2.here hx rfl (hb hby at_115) rfl (teq rfl).2 k) ?_
          refine Go.back (f' := (mkF m 119 #[.val (.int rw_), .val (.int cl_), .val (.int ce_), .val (.int md), .val (.int de), .val (.int rw_), .val (.int c'), .val (.int ce_), .val (.int mm), .val (.int (de % (2 : Int32))), .val (.int (own_b rw_ c' ce_)), .unset] [(.int (1 : Int32))])) (fun _ k => XS.iconst X2.here hx rfl (hb hby at_118) k) ?_
          refine Go.back (f' := (mkF m 123 #[.val (.int rw_), .val (.int cl_), .val (.int ce_), .val (.int md), .val (.int de), .val (.int rw_), .val (.int c'), .val (.int ce_), .val (.int mm), .val (.int (de % (2 : Int32))), .val (.int (own_b rw_ c' ce_)), .unset] [(.int (1 : Int32))])) (fun _ k => XS.goto X2.here hx rfl (pc0 := 119) (pc' := 123) rfl (hb hby at_119) (by decide) (by decide) k) ?_
          exact Go.retN X2 hx (t := .boolean) hret (by simp) (w := (1 : Int32)) rfl hlk (hb hby at_123) (by (try rw [hh2]); exact ⟨rfl, Fr.nil _⟩) (Nat.zero_le _) (Nat.zero_le _)
      · refine Go.back (f' := (mkF m 93 #[.val (.int rw_), .val (.int cl_), .val (.int ce_), .val (.int md), .val (.int de), .val (.int rw_), .val (.int cl_), .val (.int ce_), .val (.int mm), .val (.int (de % (2 : Int32))), .unset, .unset] [])) (fun _ k => XS.icmpYes X0.here hx rfl (pc0 := 70) (pc' := 93) rfl (hb hby at_70) rfl (feq g1).2 (by decide) (by decide) k) ?_
        refine Go.back (f' := (mkF m 95 #[.val (.int rw_), .val (.int cl_), .val (.int ce_), .val (.int md), .val (.int de), .val (.int rw_), .val (.int cl_), .val (.int ce_), .val (.int mm), .val (.int (de % (2 : Int32))), .unset, .unset] [(.int rw_)])) (fun _ k => XS.iload X0.here hx rfl (hb hby at_93) rfl k) ?_
        refine Go.back (f' := (mkF m 97 #[.val (.int rw_), .val (.int cl_), .val (.int ce_), .val (.int md), .val (.int de), .val (.int rw_), .val (.int cl_), .val (.int ce_), .val (.int mm), .val (.int (de % (2 : Int32))), .unset, .unset] [(.int cl_), (.int rw_)])) (fun _ k => XS.iload X0.here hx rfl (hb hby at_95) rfl k) ?_
        refine Go.back (f' := (mkF m 99 #[.val (.int rw_), .val (.int cl_), .val (.int ce_), .val (.int md), .val (.int de), .val (.int rw_), .val (.int cl_), .val (.int ce_), .val (.int mm), .val (.int (de % (2 : Int32))), .unset, .unset] [(.int ce_), (.int cl_), (.int rw_)])) (fun _ k => XS.iload X0.here hx rfl (hb hby at_97) rfl k) ?_
        refine Go.callS X0 hx hZ hown (hw _ (List.mem_of_getElem? (i := 1) rfl)) (hw _ (List.mem_of_getElem? (i := 2) rfl)) (hw _ (List.mem_of_getElem? (i := 3) rfl)) (hw _ (List.mem_of_getElem? (i := 4) rfl)) (by decide) e0 (argsL := [(.int rw_), (.int cl_), (.int ce_)]) (rest := []) (rm1 l Z a0 hw rw_ cl_ ce_ h0) (lenOf pd_0 rfl) rfl (by rw [hml]; rfl) (W := 0) (Nat.le_of_eq rfl) (hb hby at_99) (by decide) (by decide) (by decide) (by decide) ?_
        intro v1 T1 L1 X1 hQ1
        obtain ⟨rfl, rfl, hh1⟩ := hQ1
        show GoG _ _ _ _ _ (mkF m 102 #[.val (.int rw_), .val (.int cl_), .val (.int ce_), .val (.int md), .val (.int de), .val (.int rw_), .val (.int cl_), .val (.int ce_), .val (.int mm), .val (.int (de % (2 : Int32))), .unset, .unset] [(.int (own_b rw_ cl_ ce_))])
        refine Go.back (f' := (mkF m 104 #[.val (.int rw_), .val (.int cl_), .val (.int ce_), .val (.int md), .val (.int de), .val (.int rw_), .val (.int cl_), .val (.int ce_), .val (.int mm), .val (.int (de % (2 : Int32))), .val (.int (own_b rw_ cl_ ce_)), .unset] [])) (fun _ k => XS.istore X1.here hx rfl (hb hby at_102) rfl (l' := #[.val (.int rw_), .val (.int cl_), .val (.int ce_), .val (.int md), .val (.int de), .val (.int rw_), .val (.int cl_), .val (.int ce_), .val (.int mm), .val (.int (de % (2 : Int32))), .val (.int (own_b rw_ cl_ ce_)), .unset]) rfl k) ?_
        refine Go.back (f' := (mkF m 106 #[.val (.int rw_), .val (.int cl_), .val (.int ce_), .val (.int md), .val (.int de), .val (.int rw_), .val (.int cl_), .val (.int ce_), .val (.int mm), .val (.int (de % (2 : Int32))), .val (.int (own_b rw_ cl_ ce_)), .unset] [(.int rw_)])) (fun _ k => XS.iload X1.here hx rfl (hb hby at_104) rfl k) ?_
        refine Go.back (f' := (mkF m 108 #[.val (.int rw_), .val (.int cl_), .val (.int ce_), .val (.int md), .val (.int de), .val (.int rw_), .val (.int cl_), .val (.int ce_), .val (.int mm), .val (.int (de % (2 : Int32))), .val (.int (own_b rw_ cl_ ce_)), .unset] [(.int cl_), (.int rw_)])) (fun _ k => XS.iload X1.here hx rfl (hb hby at_106) rfl k) ?_
        refine Go.back (f' := (mkF m 110 #[.val (.int rw_), .val (.int cl_), .val (.int ce_), .val (.int md), .val (.int de), .val (.int rw_), .val (.int cl_), .val (.int ce_), .val (.int mm), .val (.int (de % (2 : Int32))), .val (.int (own_b rw_ cl_ ce_)), .unset] [(.int ce_), (.int cl_), (.int rw_)])) (fun _ k => XS.iload X1.here hx rfl (hb hby at_108) rfl k) ?_
        refine Go.callS X1 hx hZ hown (hw _ (List.mem_of_getElem? (i := 6) rfl)) (hw _ (List.mem_of_getElem? (i := 7) rfl)) (hw _ (List.mem_of_getElem? (i := 8) rfl)) (hw _ (List.mem_of_getElem? (i := 9) rfl)) (by decide) hh1 (argsL := [(.int rw_), (.int cl_), (.int ce_)]) (rest := []) (rm2 l Z a0 hw rw_ cl_ ce_ h0) (lenOf pd_0 rfl) rfl (by rw [hml]; rfl) (W := 0) (Nat.le_of_eq rfl) (hb hby at_110) (by decide) (by decide) (by decide) (by decide) ?_
        intro v2 T2 L2 X2 hQ2
        obtain ⟨rfl, rfl, hh2⟩ := hQ2
        show GoG _ _ _ _ _ (mkF m 113 #[.val (.int rw_), .val (.int cl_), .val (.int ce_), .val (.int md), .val (.int de), .val (.int rw_), .val (.int cl_), .val (.int ce_), .val (.int mm), .val (.int (de % (2 : Int32))), .val (.int (own_b rw_ cl_ ce_)), .unset] [(.int (own_b rw_ cl_ ce_))])
        refine Go.back (f' := (mkF m 115 #[.val (.int rw_), .val (.int cl_), .val (.int ce_), .val (.int md), .val (.int de), .val (.int rw_), .val (.int cl_), .val (.int ce_), .val (.int mm), .val (.int (de % (2 : Int32))), .val (.int (own_b rw_ cl_ ce_)), .unset] [(.int (own_b rw_ cl_ ce_)), (.int (own_b rw_ cl_ ce_))])) (fun _ k => XS.iload X2.here hx rfl (hb hby at_113) rfl k) ?_
        refine Go.back (f' := (mkF m 118 #[.val (.int rw_), .val (.int cl_), .val (.int ce_), .val (.int md), .val (.int de), .val (.int rw_), .val (.int cl_), .val (.int ce_), .val (.int mm), .val (.int (de % (2 : Int32))), .val (.int (own_b rw_ cl_ ce_)), .unset] [])) (fun _ k => XS.icmpNo X2.here hx rfl (hb hby at_115) rfl (teq rfl).2 k) ?_
        refine Go.back (f' := (mkF m 119 #[.val (.int rw_), .val (.int cl_), .val (.int ce_), .val (.int md), .val (.int de), .val (.int rw_), .val (.int cl_), .val (.int ce_), .val (.int mm), .val (.int (de % (2 : Int32))), .val (.int (own_b rw_ cl_ ce_)), .unset] [(.int (1 : Int32))])) (fun _ k => XS.iconst X2.here hx rfl (hb hby at_118) k) ?_
        refine Go.back (f' := (mkF m 123 #[.val (.int rw_), .val (.int cl_), .val (.int ce_), .val (.int md), .val (.int de), .val (.int rw_), .val (.int cl_), .val (.int ce_), .val (.int mm), .val (.int (de % (2 : Int32))), .val (.int (own_b rw_ cl_ ce_)), .unset] [(.int (1 : Int32))])) (fun _ k => XS.goto X2.here hx rfl (pc0 := 119) (pc' := 123) rfl (hb hby at_119) (by decide) (by decide) k) ?_
        exact Go.retN X2 hx (t := .boolean) hret (by simp) (w := (1 : Int32)) rfl hlk (hb hby at_123) (by (try rw [hh2]); exact ⟨rfl, Fr.nil _⟩) (Nat.zero_le _) (Nat.zero_le _)
    · refine Go.back (f' := (mkF m 32 #[.val (.int rw_), .val (.int cl_), .val (.int ce_), .val (.int md), .val (.int de), .val (.int rw_), .val (.int cl_), .val (.int ce_), .val (.int mm), .val (.int (de % (2 : Int32))), .unset, .unset] [])) (fun _ k => XS.icmpNo X0.here hx rfl (hb hby at_29) rfl (flt h2).1 k) ?_
      refine Go.back (f' := (mkF m 34 #[.val (.int rw_), .val (.int cl_), .val (.int ce_), .val (.int md), .val (.int de), .val (.int rw_), .val (.int cl_), .val (.int ce_), .val (.int mm), .val (.int (de % (2 : Int32))), .unset, .unset] [(.int ce_)])) (fun _ k => XS.iload X0.here hx rfl (hb hby at_32) rfl k) ?_
      refine Go.back (f' := (mkF m 35 #[.val (.int rw_), .val (.int cl_), .val (.int ce_), .val (.int md), .val (.int de), .val (.int rw_), .val (.int cl_), .val (.int ce_), .val (.int mm), .val (.int (de % (2 : Int32))), .unset, .unset] [(.int (1 : Int32)), (.int ce_)])) (fun _ k => XS.iconst X0.here hx rfl (hb hby at_34) k) ?_
      by_cases h3 : ce_ < (1 : Int32)
      · refine Go.back (f' := (mkF m 67 #[.val (.int rw_), .val (.int cl_), .val (.int ce_), .val (.int md), .val (.int de), .val (.int rw_), .val (.int cl_), .val (.int ce_), .val (.int mm), .val (.int (de % (2 : Int32))), .unset, .unset] [])) (fun _ k => XS.icmpYes X0.here hx rfl (pc0 := 35) (pc' := 67) rfl (hb hby at_35) rfl (tlt h3).1 (by decide) (by decide) k) ?_
        refine Go.back (f' := (mkF m 69 #[.val (.int rw_), .val (.int cl_), .val (.int ce_), .val (.int md), .val (.int de), .val (.int rw_), .val (.int cl_), .val (.int ce_), .val (.int mm), .val (.int (de % (2 : Int32))), .unset, .unset] [(.int mm)])) (fun _ k => XS.iload X0.here hx rfl (hb hby at_67) rfl k) ?_
        refine Go.back (f' := (mkF m 70 #[.val (.int rw_), .val (.int cl_), .val (.int ce_), .val (.int md), .val (.int de), .val (.int rw_), .val (.int cl_), .val (.int ce_), .val (.int mm), .val (.int (de % (2 : Int32))), .unset, .unset] [(.int (2 : Int32)), (.int mm)])) (fun _ k => XS.iconst X0.here hx rfl (hb hby at_69) k) ?_
        by_cases g1 : mm = (2 : Int32)
        · refine Go.back (f' := (mkF m 73 #[.val (.int rw_), .val (.int cl_), .val (.int ce_), .val (.int md), .val (.int de), .val (.int rw_), .val (.int cl_), .val (.int ce_), .val (.int mm), .val (.int (de % (2 : Int32))), .unset, .unset] [])) (fun _ k => XS.icmpNo X0.here hx rfl (hb hby at_70) rfl (teq g1).2 k) ?_
          refine Go.back (f' := (mkF m 75 #[.val (.int rw_), .val (.int cl_), .val (.int ce_), .val (.int md), .val (.int de), .val (.int rw_), .val (.int cl_), .val (.int ce_), .val (.int mm), .val (.int (de % (2 : Int32))), .unset, .unset] [(.int ce_)])) (fun _ k => XS.iload X0.here hx rfl (hb hby at_73) rfl k) ?_
          refine Go.back (f' := (mkF m 76 #[.val (.int rw_), .val (.int cl_), .val (.int ce_), .val (.int md), .val (.int de), .val (.int rw_), .val (.int cl_), .val (.int ce_), .val (.int mm), .val (.int (de % (2 : Int32))), .unset, .unset] [(.int (1 : Int32)), (.int ce_)])) (fun _ k => XS.iconst X0.here hx rfl (hb hby at_75) k) ?_
          by_cases g2 : ce_ < (1 : Int32)
          · refine Go.back (f' := (mkF m 93 #[.val (.int rw_), .val (.int cl_), .val (.int ce_), .val (.int md), .val (.int de), .val (.int rw_), .val (.int cl_), .val (.int ce_), .val (.int mm), .val (.int (de % (2 : Int32))), .unset, .unset] [])) (fun _ k => XS.icmpYes X0.here hx rfl (pc0 := 76) (pc' := 93) rfl (hb hby at_76) rfl (tlt g2).1 (by decide) (by decide) k) ?_
            refine Go.back (f' := (mkF m 95 #[.val (.int rw_), .val (.int cl_), .val (.int ce_), .val (.int md), .val (.int de), .val (.int rw_), .val (.int cl_), .val (.int ce_), .val (.int mm), .val (.int (de % (2 : Int32))), .unset, .unset] [(.int rw_)])) (fun _ k => XS.iload X0.here hx rfl (hb hby at_93) rfl k) ?_
            refine Go.back (f' := (mkF m 97 #[.val (.int rw_), .val (.int cl_), .val (.int ce_), .val (.int md), .val (.int de), .val (.int rw_), .val (.int cl_), .val (.int ce_), .val (.int mm), .val (.int (de % (2 : Int32))), .unset, .unset] [(.int cl_), (.int rw_)])) (fun _ k => XS.iload X0.here hx rfl (hb hby at_95) rfl k) ?_
            refine Go.back (f' := (mkF m 99 #[.val (.int rw_), .val (.int cl_), .val (.int ce_), .val (.int md), .val (.int de), .val (.int rw_), .val (.int cl_), .val (.int ce_), .val (.int mm), .val (.int (de % (2 : Int32))), .unset, .unset] [(.int ce_), (.int cl_), (.int rw_)])) (fun _ k => XS.iload X0.here hx rfl (hb hby at_97) rfl k) ?_
            refine Go.callS X0 hx hZ hown (hw _ (List.mem_of_getElem? (i := 1) rfl)) (hw _ (List.mem_of_getElem? (i := 2) rfl)) (hw _ (List.mem_of_getElem? (i := 3) rfl)) (hw _ (List.mem_of_getElem? (i := 4) rfl)) (by decide) e0 (argsL := [(.int rw_), (.int cl_), (.int ce_)]) (rest := []) (rm1 l Z a0 hw rw_ cl_ ce_ h0) (lenOf pd_0 rfl) rfl (by rw [hml]; rfl) (W := 0) (Nat.le_of_eq rfl) (hb hby at_99) (by decide) (by decide) (by decide) (by decide) ?_
            intro v1 T1 L1 X1 hQ1
            obtain ⟨rfl, rfl, hh1⟩ := hQ1
            show GoG _ _ _ _ _ (mkF m 102 #[.val (.int rw_), .val (.int cl_), .val (.int ce_), .val (.int md), .val (.int de), .val (.int rw_), .val (.int cl_), .val (.int ce_), .val (.int mm), .val (.int (de % (2 : Int32))), .unset, .unset] [(.int (own_b rw_ cl_ ce_))])
            refine Go.back (f' := (mkF m 104 #[.val (.int rw_), .val (.int cl_), .val (.int ce_), .val (.int md), .val (.int de), .val (.int rw_), .val (.int cl_), .val (.int ce_), .val (.int mm), .val (.int (de % (2 : Int32))), .val (.int (own_b rw_ cl_ ce_)), .unset] [])) (fun _ k => XS.istore X1.here hx rfl (hb hby at_102) rfl (l' := #[.val (.int rw_), .val (.int cl_), .val (.int ce_), .val (.int md), .val (.int de), .val (.int rw_), .val (.int cl_), .val (.int ce_), .val (.int mm), .val (.int (de % (2 : Int32))), .val (.int (own_b rw_ cl_ ce_)), .unset]) rfl k) ?_
            refine Go.back (f' := (mkF m 106 #[.val (.int rw_), .val (.int cl_), .val (.int ce_), .val (.int md), .val (.int de), .val (.int rw_), .val (.int cl_), .val (.int ce_), .val (.int mm), .val (.int (de % (2 : Int32))), .val (.int (own_b rw_ cl_ ce_)), .unset] [(.int rw_)])) (fun _ k => XS.iload X1.here hx rfl (hb hby at_104) rfl k) ?_
            refine Go.back (f' := (mkF m 108 #[.val (.int rw_), .val (.int cl_), .val (.int ce_), .val (.int md), .val (.int de), .val (.int rw_), .val (.int cl_), .val (.int ce_), .val (.int mm), .val (.int (de % (2 : Int32))), .val (.int (own_b rw_ cl_ ce_)), .unset] [(.int cl_), (.int rw_)])) (fun _ k => XS.iload X1.here hx rfl (hb hby at_106) rfl k) ?_
            refine Go.back (f' := (mkF m 110 #[.val (.int rw_), .val (.int cl_), .val (.int ce_), .val (.int md), .val (.int de), .val (.int rw_), .val (.int cl_), .val (.int ce_), .val (.int mm), .val (.int (de % (2 : Int32))), .val (.int (own_b rw_ cl_ ce_)), .unset] [(.int ce_), (.int cl_), (.int rw_)])) (fun _ k => XS.iload X1.here hx rfl (hb hby at_108) rfl k) ?_
            refine Go.callS X1 hx hZ hown (hw _ (List.mem_of_getElem? (i := 6) rfl)) (hw _ (List.mem_of_getElem? (i := 7) rfl)) (hw _ (List.mem_of_getElem? (i := 8) rfl)) (hw _ (List.mem_of_getElem? (i := 9) rfl)) (by decide) hh1 (argsL := [(.int rw_), (.int cl_), (.int ce_)]) (rest := []) (rm2 l Z a0 hw rw_ cl_ ce_ h0) (lenOf pd_0 rfl) rfl (by rw [hml]; rfl) (W := 0) (Nat.le_of_eq rfl) (hb hby at_110) (by decide) (by decide) (by decide) (by decide) ?_
            intro v2 T2 L2 X2 hQ2
            obtain ⟨rfl, rfl, hh2⟩ := hQ2
            show GoG _ _ _ _ _ (mkF m 113 #[.val (.int rw_), .val (.int cl_), .val (.int ce_), .val (.int md), .val (.int de), .val (.int rw_), .val (.int cl_), .val (.int ce_), .val (.int mm), .val (.int (de % (2 : Int32))), .val (.int (own_b rw_ cl_ ce_)), .unset] [(.int (own_b rw_ cl_ ce_))])
            refine Go.back (f' := (mkF m 115 #[.val (.int rw_), .val (.int cl_), .val (.int ce_), .val (.int md), .val (.int de), .val (.int rw_), .val (.int cl_), .val (.int ce_), .val (.int mm), .val (.int (de % (2 : Int32))), .val (.int (own_b rw_ cl_ ce_)), .unset] [(.int (own_b rw_ cl_ ce_)), (.int (own_b rw_ cl_ ce_))])) (fun _ k => XS.iload X2.here hx rfl (hb hby at_113) rfl k) ?_
            refine Go.back (f' := (mkF m 118 #[.val (.int rw_), .val (.int cl_), .val (.int ce_), .val (.int md), .val (.int de), .val (.int rw_), .val (.int cl_), .val (.int ce_), .val (.int mm), .val (.int (de % (2 : Int32))), .val (.int (own_b rw_ cl_ ce_)), .unset] [])) (fun _ k => XS.icmpNo X2.here hx rfl (hb hby at_115) rfl (teq rfl).2 k) ?_
            refine Go.back (f' := (mkF m 119 #[.val (.int rw_), .val (.int cl_), .val (.int ce_), .val (.int md), .val (.int de), .val (.int rw_), .val (.int cl_), .val (.int ce_), .val (.int mm), .val (.int (de % (2 : Int32))), .val (.int (own_b rw_ cl_ ce_)), .unset] [(.int (1 : Int32))])) (fun _ k => XS.iconst X2.here hx rfl (hb hby at_118) k) ?_
            refine Go.back (f' := (mkF m 123 #[.val (.int rw_), .val (.int cl_), .val (.int ce_), .val (.int md), .val (.int de), .val (.int rw_), .val (.int cl_), .val (.int ce_), .val (.int mm), .val (.int (de % (2 : Int32))), .val (.int (own_b rw_ cl_ ce_)), .unset] [(.int (1 : Int32))])) (fun _ k => XS.goto X2.here hx rfl (pc0 := 119) (pc' := 123) rfl (hb hby at_119) (by decide) (by decide) k) ?_
            exact Go.retN X2 hx (t := .boolean) hret (by simp) (w := (1 : Int32)) rfl hlk (hb hby at_123) (by (try rw [hh2]); exact ⟨rfl, Fr.nil _⟩) (Nat.zero_le _) (Nat.zero_le _)
          · refine Go.back (f' := (mkF m 79 #[.val (.int rw_), .val (.int cl_), .val (.int ce_), .val (.int md), .val (.int de), .val (.int rw_), .val (.int cl_), .val (.int ce_), .val (.int mm), .val (.int (de % (2 : Int32))), .unset, .unset] [])) (fun _ k => XS.icmpNo X0.here hx rfl (hb hby at_76) rfl (flt g2).1 k) ?_
            refine Go.back (f' := (mkF m 82 #[.val (.int rw_), .val (.int cl_), .val (.int ce_), .val (.int md), .val (.int de), .val (.int rw_), .val (.int cl_), .val (.int ce_), .val (.int mm), .val (.int (de % (2 : Int32))), .unset, .unset] [(.long (715827879 : Int64))])) (fun _ k => X0.ldc2Long hx hown (mvT hZ (hw _ (List.mem_of_getElem? (i := 5) rfl))) (g := (mkF m 79 #[.val (.int rw_), .val (.int cl_), .val (.int ce_), .val (.int md), .val (.int de), .val (.int rw_), .val (.int cl_), .val (.int ce_), .val (.int mm), .val (.int (de % (2 : Int32))), .unset, .unset] [])) rfl (hb hby at_79) _ k) ?_
            refine Go.back (f' := (mkF m 84 #[.val (.int rw_), .val (.int cl_), .val (.int ce_), .val (.int md), .val (.int de), .val (.int rw_), .val (.int cl_), .val (.int ce_), .val (.int mm), .val (.int (de % (2 : Int32))), .unset, .unset] [(.int ce_), (.long (715827879 : Int64))])) (fun _ k => XS.iload X0.here hx rfl (hb hby at_82) rfl k) ?_
            refine Go.back (f' := (mkF m 85 #[.val (.int rw_), .val (.int cl_), .val (.int ce_), .val (.int md), .val (.int de), .val (.int rw_), .val (.int cl_), .val (.int ce_), .val (.int mm), .val (.int (de % (2 : Int32))), .unset, .unset] [(.long (ce_.toInt64)), (.long (715827879 : Int64))])) (fun _ k => XS.i2l X0.here hx rfl (hb hby at_84) rfl k) ?_
            refine Go.back (f' := (mkF m 86 #[.val (.int rw_), .val (.int cl_), .val (.int ce_), .val (.int md), .val (.int de), .val (.int rw_), .val (.int cl_), .val (.int ce_), .val (.int mm), .val (.int (de % (2 : Int32))), .unset, .unset] [(.long ((715827879 : Int64) / (ce_.toInt64)))])) (fun _ k => XS.ldiv X0.here hx rfl (hb hby at_85) rfl (own_nz2 g2) k) ?_
            refine Go.back (f' := (mkF m 88 #[.val (.int rw_), .val (.int cl_), .val (.int ce_), .val (.int md), .val (.int de), .val (.int rw_), .val (.int cl_), .val (.int ce_), .val (.int mm), .val (.int (de % (2 : Int32))), .unset, .unset] [(.int (de % (2 : Int32))), (.long ((715827879 : Int64) / (ce_.toInt64)))])) (fun _ k => XS.iload X0.here hx rfl (hb hby at_86) rfl k) ?_
            refine Go.back (f' := (mkF m 89 #[.val (.int rw_), .val (.int cl_), .val (.int ce_), .val (.int md), .val (.int de), .val (.int rw_), .val (.int cl_), .val (.int ce_), .val (.int mm), .val (.int (de % (2 : Int32))), .unset, .unset] [(.long ((de % (2 : Int32)).toInt64)), (.long ((715827879 : Int64) / (ce_.toInt64)))])) (fun _ k => XS.i2l X0.here hx rfl (hb hby at_88) rfl k) ?_
            refine Go.back (f' := (mkF m 90 #[.val (.int rw_), .val (.int cl_), .val (.int ce_), .val (.int md), .val (.int de), .val (.int rw_), .val (.int cl_), .val (.int ce_), .val (.int mm), .val (.int (de % (2 : Int32))), .unset, .unset] [(.long (((715827879 : Int64) / (ce_.toInt64)) + ((de % (2 : Int32)).toInt64)))])) (fun _ k => XS.ladd X0.here hx rfl (hb hby at_89) rfl k) ?_
            refine Go.back (f' := (mkF m 91 #[.val (.int rw_), .val (.int cl_), .val (.int ce_), .val (.int md), .val (.int de), .val (.int rw_), .val (.int cl_), .val (.int ce_), .val (.int mm), .val (.int (de % (2 : Int32))), .unset, .unset] [(.int ((((715827879 : Int64) / (ce_.toInt64)) + ((de % (2 : Int32)).toInt64)).toInt32))])) (fun _ k => XS.l2i X0.here hx rfl (hb hby at_90) rfl k) ?_
            refine Go.back (f' := (mkF m 93 #[.val (.int rw_), .val (.int cl_), .val (.int ce_), .val (.int md), .val (.int de), .val (.int rw_), .val (.int ((((715827879 : Int64) / (ce_.toInt64)) + ((de % (2 : Int32)).toInt64)).toInt32)), .val (.int ce_), .val (.int mm), .val (.int (de % (2 : Int32))), .unset, .unset] [])) (fun _ k => XS.istore X0.here hx rfl (hb hby at_91) rfl (l' := #[.val (.int rw_), .val (.int cl_), .val (.int ce_), .val (.int md), .val (.int de), .val (.int rw_), .val (.int ((((715827879 : Int64) / (ce_.toInt64)) + ((de % (2 : Int32)).toInt64)).toInt32)), .val (.int ce_), .val (.int mm), .val (.int (de % (2 : Int32))), .unset, .unset]) rfl k) ?_
            refine Go.back (f' := (mkF m 95 #[.val (.int rw_), .val (.int cl_), .val (.int ce_), .val (.int md), .val (.int de), .val (.int rw_), .val (.int ((((715827879 : Int64) / (ce_.toInt64)) + ((de % (2 : Int32)).toInt64)).toInt32)), .val (.int ce_), .val (.int mm), .val (.int (de % (2 : Int32))), .unset, .unset] [(.int rw_)])) (fun _ k => XS.iload X0.here hx rfl (hb hby at_93) rfl k) ?_
            refine Go.back (f' := (mkF m 97 #[.val (.int rw_), .val (.int cl_), .val (.int ce_), .val (.int md), .val (.int de), .val (.int rw_), .val (.int ((((715827879 : Int64) / (ce_.toInt64)) + ((de % (2 : Int32)).toInt64)).toInt32)), .val (.int ce_), .val (.int mm), .val (.int (de % (2 : Int32))), .unset, .unset] [(.int ((((715827879 : Int64) / (ce_.toInt64)) + ((de % (2 : Int32)).toInt64)).toInt32)), (.int rw_)])) (fun _ k => XS.iload X0.here hx rfl (hb hby at_95) rfl k) ?_
            refine Go.back (f' := (mkF m 99 #[.val (.int rw_), .val (.int cl_), .val (.int ce_), .val (.int md), .val (.int de), .val (.int rw_), .val (.int ((((715827879 : Int64) / (ce_.toInt64)) + ((de % (2 : Int32)).toInt64)).toInt32)), .val (.int ce_), .val (.int mm), .val (.int (de % (2 : Int32))), .unset, .unset] [(.int ce_), (.int ((((715827879 : Int64) / (ce_.toInt64)) + ((de % (2 : Int32)).toInt64)).toInt32)), (.int rw_)])) (fun _ k => XS.iload X0.here hx rfl (hb hby at_97) rfl k) ?_
            generalize ec : ((((715827879 : Int64) / (ce_.toInt64)) + ((de % (2 : Int32)).toInt64)).toInt32) = c'
            refine Go.callS X0 hx hZ hown (hw _ (List.mem_of_getElem? (i := 1) rfl)) (hw _ (List.mem_of_getElem? (i := 2) rfl)) (hw _ (List.mem_of_getElem? (i := 3) rfl)) (hw _ (List.mem_of_getElem? (i := 4) rfl)) (by decide) e0 (argsL := [(.int rw_), (.int c'), (.int ce_)]) (rest := []) (rm1 l Z a0 hw rw_ c' ce_ h0) (lenOf pd_0 rfl) rfl (by rw [hml]; rfl) (W := 0) (Nat.le_of_eq rfl) (hb hby at_99) (by decide) (by decide) (by decide) (by decide) ?_
            intro v1 T1 L1 X1 hQ1
            obtain ⟨rfl, rfl, hh1⟩ := hQ1
            show GoG _ _ _ _ _ (mkF m 102 #[.val (.int rw_), .val (.int cl_), .val (.int ce_), .val (.int md), .val (.int de), .val (.int rw_), .val (.int c'), .val (.int ce_), .val (.int mm), .val (.int (de % (2 : Int32))), .unset, .unset] [(.int (own_b rw_ c' ce_))])
            refine Go.back (f' := (mkF m 104 #[.val (.int rw_), .val (.int cl_), .val (.int ce_), .val (.int md), .val (.int de), .val (.int rw_), .val (.int c'), .val (.int ce_), .val (.int mm), .val (.int (de % (2 : Int32))), .val (.int (own_b rw_ c' ce_)), .unset] [])) (fun _ k => XS.istore X1.here hx rfl (hb hby at_102) rfl (l' := #[.val (.int rw_), .val (.int cl_), .val (.int ce_), .val (.int md), .val (.int de), .val (.int rw_), .val (.int c'), .val (.int ce_), .val (.int mm), .val (.int (de % (2 : Int32))), .val (.int (own_b rw_ c' ce_)), .unset]) rfl k) ?_
            refine Go.back (f' := (mkF m 106 #[.val (.int rw_), .val (.int cl_), .val (.int ce_), .val (.int md), .val (.int de), .val (.int rw_), .val (.int c'), .val (.int ce_), .val (.int mm), .val (.int (de % (2 : Int32))), .val (.int (own_b rw_ c' ce_)), .unset] [(.int rw_)])) (fun _ k => XS.iload X1.here hx rfl (hb hby at_104) rfl k) ?_
            refine Go.back (f' := (mkF m 108 #[.val (.int rw_), .val (.int cl_), .val (.int ce_), .val (.int md), .val (.int de), .val (.int rw_), .val (.int c'), .val (.int ce_), .val (.int mm), .val (.int (de % (2 : Int32))), .val (.int (own_b rw_ c' ce_)), .unset] [(.int c'), (.int rw_)])) (fun _ k => XS.iload X1.here hx rfl (hb hby at_106) rfl k) ?_
            refine Go.back (f' := (mkF m 110 #[.val (.int rw_), .val (.int cl_), .val (.int ce_), .val (.int md), .val (.int de), .val (.int rw_), .val (.int c'), .val (.int ce_), .val (.int mm), .val (.int (de % (2 : Int32))), .val (.int (own_b rw_ c' ce_)), .unset] [(.int ce_), (.int c'), (.int rw_)])) (fun _ k => XS.iload X1.here hx rfl (hb hby at_108) rfl k) ?_
            refine Go.callS X1 hx hZ hown (hw _ (List.mem_of_getElem? (i := 6) rfl)) (hw _ (List.mem_of_getElem? (i := 7) rfl)) (hw _ (List.mem_of_getElem? (i := 8) rfl)) (hw _ (List.mem_of_getElem? (i := 9) rfl)) (by decide) hh1 (argsL := [(.int rw_), (.int c'), (.int ce_)]) (rest := []) (rm2 l Z a0 hw rw_ c' ce_ h0) (lenOf pd_0 rfl) rfl (by rw [hml]; rfl) (W := 0) (Nat.le_of_eq rfl) (hb hby at_110) (by decide) (by decide) (by decide) (by decide) ?_
            intro v2 T2 L2 X2 hQ2
            obtain ⟨rfl, rfl, hh2⟩ := hQ2
            show GoG _ _ _ _ _ (mkF m 113 #[.val (.int rw_), .val (.int cl_), .val (.int ce_), .val (.int md), .val (.int de), .val (.int rw_), .val (.int c'), .val (.int ce_), .val (.int mm), .val (.int (de % (2 : Int32))), .val (.int (own_b rw_ c' ce_)), .unset] [(.int (own_b rw_ c' ce_))])
            refine Go.back (f' := (mkF m 115 #[.val (.int rw_), .val (.int cl_), .val (.int ce_), .val (.int md), .val (.int de), .val (.int rw_), .val (.int c'), .val (.int ce_), .val (.int mm), .val (.int (de % (2 : Int32))), .val (.int (own_b rw_ c' ce_)), .unset] [(.int (own_b rw_ c' ce_)), (.int (own_b rw_ c' ce_))])) (fun _ k => XS.iload X2.here hx rfl (hb hby at_113) rfl k) ?_
            refine Go.back (f' := (mkF m 118 #[.val (.int rw_), .val (.int cl_), .val (.int ce_), .val (.int md), .val (.int de), .val (.int rw_), .val (.int c'), .val (.int ce_), .val (.int mm), .val (.int (de % (2 : Int32))), .val (.int (own_b rw_ c' ce_)), .unset] [])) (fun _ k => XS.icmpNo X2.here hx rfl (hb hby at_115) rfl (teq rfl).2 k) ?_
            refine Go.back (f' := (mkF m 119 #[.val (.int rw_), .val (.int cl_), .val (.int ce_), .val (.int md), .val (.int de), .val (.int rw_), .val (.int c'), .val (.int ce_), .val (.int mm), .val (.int (de % (2 : Int32))), .val (.int (own_b rw_ c' ce_)), .unset] [(.int (1 : Int32))])) (fun _ k => XS.iconst X2.here hx rfl (hb hby at_118) k) ?_
            refine Go.back (f' := (mkF m 123 #[.val (.int rw_), .val (.int cl_), .val (.int ce_), .val (.int md), .val (.int de), .val (.int rw_), .val (.int c'), .val (.int ce_), .val (.int mm), .val (.int (de % (2 : Int32))), .val (.int (own_b rw_ c' ce_)), .unset] [(.int (1 : Int32))])) (fun _ k => XS.goto X2.here hx rfl (pc0 := 119) (pc' := 123) rfl (hb hby at_119) (by decide) (by decide) k) ?_
            exact Go.retN X2 hx (t := .boolean) hret (by simp) (w := (1 : Int32)) rfl hlk (hb hby at_123) (by (try rw [hh2]); exact ⟨rfl, Fr.nil _⟩) (Nat.zero_le _) (Nat.zero_le _)
        · refine Go.back (f' := (mkF m 93 #[.val (.int rw_), .val (.int cl_), .val (.int ce_), .val (.int md), .val (.int de), .val (.int rw_), .val (.int cl_), .val (.int ce_), .val (.int mm), .val (.int (de % (2 : Int32))), .unset, .unset] [])) (fun _ k => XS.icmpYes X0.here hx rfl (pc0 := 70) (pc' := 93) rfl (hb hby at_70) rfl (feq g1).2 (by decide) (by decide) k) ?_
          refine Go.back (f' := (mkF m 95 #[.val (.int rw_), .val (.int cl_), .val (.int ce_), .val (.int md), .val (.int de), .val (.int rw_), .val (.int cl_), .val (.int ce_), .val (.int mm), .val (.int (de % (2 : Int32))), .unset, .unset] [(.int rw_)])) (fun _ k => XS.iload X0.here hx rfl (hb hby at_93) rfl k) ?_
          refine Go.back (f' := (mkF m 97 #[.val (.int rw_), .val (.int cl_), .val (.int ce_), .val (.int md), .val (.int de), .val (.int rw_), .val (.int cl_), .val (.int ce_), .val (.int mm), .val (.int (de % (2 : Int32))), .unset, .unset] [(.int cl_), (.int rw_)])) (fun _ k => XS.iload X0.here hx rfl (hb hby at_95) rfl k) ?_
          refine Go.back (f' := (mkF m 99 #[.val (.int rw_), .val (.int cl_), .val (.int ce_), .val (.int md), .val (.int de), .val (.int rw_), .val (.int cl_), .val (.int ce_), .val (.int mm), .val (.int (de % (2 : Int32))), .unset, .unset] [(.int ce_), (.int cl_), (.int rw_)])) (fun _ k => XS.iload X0.here hx rfl (hb hby at_97) rfl k) ?_
          refine Go.callS X0 hx hZ hown (hw _ (List.mem_of_getElem? (i := 1) rfl)) (hw _ (List.mem_of_getElem? (i := 2) rfl)) (hw _ (List.mem_of_getElem? (i := 3) rfl)) (hw _ (List.mem_of_getElem? (i := 4) rfl)) (by decide) e0 (argsL := [(.int rw_), (.int cl_), (.int ce_)]) (rest := []) (rm1 l Z a0 hw rw_ cl_ ce_ h0) (lenOf pd_0 rfl) rfl (by rw [hml]; rfl) (W := 0) (Nat.le_of_eq rfl) (hb hby at_99) (by decide) (by decide) (by decide) (by decide) ?_
          intro v1 T1 L1 X1 hQ1
          obtain ⟨rfl, rfl, hh1⟩ := hQ1
          show GoG _ _ _ _ _ (mkF m 102 #[.val (.int rw_), .val (.int cl_), .val (.int ce_), .val (.int md), .val (.int de), .val (.int rw_), .val (.int cl_), .val (.int ce_), .val (.int mm), .val (.int (de % (2 : Int32))), .unset, .unset] [(.int (own_b rw_ cl_ ce_))])
          refine Go.back (f' := (mkF m 104 #[.val (.int rw_), .val (.int cl_), .val (.int ce_), .val (.int md), .val (.int de), .val (.int rw_), .val (.int cl_), .val (.int ce_), .val (.int mm), .val (.int (de % (2 : Int32))), .val (.int (own_b rw_ cl_ ce_)), .unset] [])) (fun _ k => XS.istore X1.here hx rfl (hb hby at_102) rfl (l' := #[.val (.int rw_), .val (.int cl_), .val (.int ce_), .val (.int md), .val (.int de), .val (.int rw_), .val (.int cl_), .val (.int ce_), .val (.int mm), .val (.int (de % (2 : Int32))), .val (.int (own_b rw_ cl_ ce_)), .unset]) rfl k) ?_
          refine Go.back (f' := (mkF m 106 #[.val (.int rw_), .val (.int cl_), .val (.int ce_), .val (.int md), .val (.int de), .val (.int rw_), .val (.int cl_), .val (.int ce_), .val (.int mm), .val (.int (de % (2 : Int32))), .val (.int (own_b rw_ cl_ ce_)), .unset] [(.int rw_)])) (fun _ k => XS.iload X1.here hx rfl (hb hby at_104) rfl k) ?_
          refine Go.back (f' := (mkF m 108 #[.val (.int rw_), .val (.int cl_), .val (.int ce_), .val (.int md), .val (.int de), .val (.int rw_), .val (.int cl_), .val (.int ce_), .val (.int mm), .val (.int (de % (2 : Int32))), .val (.int (own_b rw_ cl_ ce_)), .unset] [(.int cl_), (.int rw_)])) (fun _ k => XS.iload X1.here hx rfl (hb hby at_106) rfl k) ?_
          refine Go.back (f' := (mkF m 110 #[.val (.int rw_), .val (.int cl_), .val (.int ce_), .val (.int md), .val (.int de), .val (.int rw_), .val (.int cl_), .val (.int ce_), .val (.int mm), .val (.int (de % (2 : Int32))), .val (.int (own_b rw_ cl_ ce_)), .unset] [(.int ce_), (.int cl_), (.int rw_)])) (fun _ k => XS.iload X1.here hx rfl (hb hby at_108) rfl k) ?_
          refine Go.callS X1 hx hZ hown (hw _ (List.mem_of_getElem? (i := 6) rfl)) (hw _ (List.mem_of_getElem? (i := 7) rfl)) (hw _ (List.mem_of_getElem? (i := 8) rfl)) (hw _ (List.mem_of_getElem? (i := 9) rfl)) (by decide) hh1 (argsL := [(.int rw_), (.int cl_), (.int ce_)]) (rest := []) (rm2 l Z a0 hw rw_ cl_ ce_ h0) (lenOf pd_0 rfl) rfl (by rw [hml]; rfl) (W := 0) (Nat.le_of_eq rfl) (hb hby at_110) (by decide) (by decide) (by decide) (by decide) ?_
          intro v2 T2 L2 X2 hQ2
          obtain ⟨rfl, rfl, hh2⟩ := hQ2
          show GoG _ _ _ _ _ (mkF m 113 #[.val (.int rw_), .val (.int cl_), .val (.int ce_), .val (.int md), .val (.int de), .val (.int rw_), .val (.int cl_), .val (.int ce_), .val (.int mm), .val (.int (de % (2 : Int32))), .val (.int (own_b rw_ cl_ ce_)), .unset] [(.int (own_b rw_ cl_ ce_))])
          refine Go.back (f' := (mkF m 115 #[.val (.int rw_), .val (.int cl_), .val (.int ce_), .val (.int md), .val (.int de), .val (.int rw_), .val (.int cl_), .val (.int ce_), .val (.int mm), .val (.int (de % (2 : Int32))), .val (.int (own_b rw_ cl_ ce_)), .unset] [(.int (own_b rw_ cl_ ce_)), (.int (own_b rw_ cl_ ce_))])) (fun _ k => XS.iload X2.here hx rfl (hb hby at_113) rfl k) ?_
          refine Go.back (f' := (mkF m 118 #[.val (.int rw_), .val (.int cl_), .val (.int ce_), .val (.int md), .val (.int de), .val (.int rw_), .val (.int cl_), .val (.int ce_), .val (.int mm), .val (.int (de % (2 : Int32))), .val (.int (own_b rw_ cl_ ce_)), .unset] [])) (fun _ k => XS.icmpNo X2.here hx rfl (hb hby at_115) rfl (teq rfl).2 k) ?_
          refine Go.back (f' := (mkF m 119 #[.val (.int rw_), .val (.int cl_), .val (.int ce_), .val (.int md), .val (.int de), .val (.int rw_), .val (.int cl_), .val (.int ce_), .val (.int mm), .val (.int (de % (2 : Int32))), .val (.int (own_b rw_ cl_ ce_)), .unset] [(.int (1 : Int32))])) (fun _ k => XS.iconst X2.here hx rfl (hb hby at_118) k) ?_
          refine Go.back (f' := (mkF m 123 #[.val (.int rw_), .val (.int cl_), .val (.int ce_), .val (.int md), .val (.int de), .val (.int rw_), .val (.int cl_), .val (.int ce_), .val (.int mm), .val (.int (de % (2 : Int32))), .val (.int (own_b rw_ cl_ ce_)), .unset] [(.int (1 : Int32))])) (fun _ k => XS.goto X2.here hx rfl (pc0 := 119) (pc' := 123) rfl (hb hby at_119) (by decide) (by decide) k) ?_
          exact Go.retN X2 hx (t := .boolean) hret (by simp) (w := (1 : Int32)) rfl hlk (hb hby at_123) (by (try rw [hh2]); exact ⟨rfl, Fr.nil _⟩) (Nat.zero_le _) (Nat.zero_le _)
      · refine Go.back (f' := (mkF m 38 #[.val (.int rw_), .val (.int cl_), .val (.int ce_), .val (.int md), .val (.int de), .val (.int rw_), .val (.int cl_), .val (.int ce_), .val (.int mm), .val (.int (de % (2 : Int32))), .unset, .unset] [])) (fun _ k => XS.icmpNo X0.here hx rfl (hb hby at_35) rfl (flt h3).1 k) ?_
        refine Go.back (f' := (mkF m 40 #[.val (.int rw_), .val (.int cl_), .val (.int ce_), .val (.int md), .val (.int de), .val (.int rw_), .val (.int cl_), .val (.int ce_), .val (.int mm), .val (.int (de % (2 : Int32))), .unset, .unset] [(.int cl_)])) (fun _ k => XS.iload X0.here hx rfl (hb hby at_38) rfl k) ?_
        refine Go.back (f' := (mkF m 41 #[.val (.int rw_), .val (.int cl_), .val (.int ce_), .val (.int md), .val (.int de), .val (.int rw_), .val (.int cl_), .val (.int ce_), .val (.int mm), .val (.int (de % (2 : Int32))), .unset, .unset] [(.long (cl_.toInt64))])) (fun _ k => XS.i2l X0.here hx rfl (hb hby at_40) rfl k) ?_
        refine Go.back (f' := (mkF m 43 #[.val (.int rw_), .val (.int cl_), .val (.int ce_), .val (.int md), .val (.int de), .val (.int rw_), .val (.int cl_), .val (.int ce_), .val (.int mm), .val (.int (de % (2 : Int32))), .unset, .unset] [(.int ce_), (.long (cl_.toInt64))])) (fun _ k => XS.iload X0.here hx rfl (hb hby at_41) rfl k) ?_
        refine Go.back (f' := (mkF m 44 #[.val (.int rw_), .val (.int cl_), .val (.int ce_), .val (.int md), .val (.int de), .val (.int rw_), .val (.int cl_), .val (.int ce_), .val (.int mm), .val (.int (de % (2 : Int32))), .unset, .unset] [(.long (ce_.toInt64)), (.long (cl_.toInt64))])) (fun _ k => XS.i2l X0.here hx rfl (hb hby at_43) rfl k) ?_
        refine Go.back (f' := (mkF m 45 #[.val (.int rw_), .val (.int cl_), .val (.int ce_), .val (.int md), .val (.int de), .val (.int rw_), .val (.int cl_), .val (.int ce_), .val (.int mm), .val (.int (de % (2 : Int32))), .unset, .unset] [(.long ((cl_.toInt64) * (ce_.toInt64)))])) (fun _ k => XS.lmul X0.here hx rfl (hb hby at_44) rfl k) ?_
        refine Go.back (f' := (mkF m 47 #[.val (.int rw_), .val (.int cl_), .val (.int ce_), .val (.int md), .val (.int de), .val (.int rw_), .val (.int cl_), .val (.int ce_), .val (.int mm), .val (.int (de % (2 : Int32))), .val (.long ((cl_.toInt64) * (ce_.toInt64))), .second] [])) (fun _ k => XS.lstore X0.here hx rfl (hb hby at_45) rfl (l' := #[.val (.int rw_), .val (.int cl_), .val (.int ce_), .val (.int md), .val (.int de), .val (.int rw_), .val (.int cl_), .val (.int ce_), .val (.int mm), .val (.int (de % (2 : Int32))), .val (.long ((cl_.toInt64) * (ce_.toInt64))), .second]) rfl k) ?_
        refine Go.back (f' := (mkF m 50 #[.val (.int rw_), .val (.int cl_), .val (.int ce_), .val (.int md), .val (.int de), .val (.int rw_), .val (.int cl_), .val (.int ce_), .val (.int mm), .val (.int (de % (2 : Int32))), .val (.long ((cl_.toInt64) * (ce_.toInt64))), .second] [(.long (2147483639 : Int64))])) (fun _ k => X0.ldc2Long hx hown (mvT hZ (hw _ (List.mem_of_getElem? (i := 0) rfl))) (g := (mkF m 47 #[.val (.int rw_), .val (.int cl_), .val (.int ce_), .val (.int md), .val (.int de), .val (.int rw_), .val (.int cl_), .val (.int ce_), .val (.int mm), .val (.int (de % (2 : Int32))), .val (.long ((cl_.toInt64) * (ce_.toInt64))), .second] [])) rfl (hb hby at_47) _ k) ?_
        refine Go.back (f' := (mkF m 52 #[.val (.int rw_), .val (.int cl_), .val (.int ce_), .val (.int md), .val (.int de), .val (.int rw_), .val (.int cl_), .val (.int ce_), .val (.int mm), .val (.int (de % (2 : Int32))), .val (.long ((cl_.toInt64) * (ce_.toInt64))), .second] [(.long ((cl_.toInt64) * (ce_.toInt64))), (.long (2147483639 : Int64))])) (fun _ k => XS.lload X0.here hx rfl (hb hby at_50) rfl k) ?_
        refine Go.back (f' := (mkF m 53 #[.val (.int rw_), .val (.int cl_), .val (.int ce_), .val (.int md), .val (.int de), .val (.int rw_), .val (.int cl_), .val (.int ce_), .val (.int mm), .val (.int (de % (2 : Int32))), .val (.long ((cl_.toInt64) * (ce_.toInt64))), .second] [(.long ((2147483639 : Int64) / ((cl_.toInt64) * (ce_.toInt64))))])) (fun _ k => XS.ldiv X0.here hx rfl (hb hby at_52) rfl (own_nz1 h2 h3) k) ?_
        refine Go.back (f' := (mkF m 55 #[.val (.int rw_), .val (.int cl_), .val (.int ce_), .val (.int md), .val (.int de), .val (.int rw_), .val (.int cl_), .val (.int ce_), .val (.int mm), .val (.int (de % (2 : Int32))), .val (.long ((cl_.toInt64) * (ce_.toInt64))), .second] [(.int ce_), (.long ((2147483639 : Int64) / ((cl_.toInt64) * (ce_.toInt64))))])) (fun _ k => XS.iload X0.here hx rfl (hb hby at_53) rfl k) ?_
        refine Go.back (f' := (mkF m 56 #[.val (.int rw_), .val (.int cl_), .val (.int ce_), .val (.int md), .val (.int de), .val (.int rw_), .val (.int cl_), .val (.int ce_), .val (.int mm), .val (.int (de % (2 : Int32))), .val (.long ((cl_.toInt64) * (ce_.toInt64))), .second] [(.long (ce_.toInt64)), (.long ((2147483639 : Int64) / ((cl_.toInt64) * (ce_.toInt64))))])) (fun _ k => XS.i2l X0.here hx rfl (hb hby at_55) rfl k) ?_
        refine Go.back (f' := (mkF m 57 #[.val (.int rw_), .val (.int cl_), .val (.int ce_), .val (.int md), .val (.int de), .val (.int rw_), .val (.int cl_), .val (.int ce_), .val (.int mm), .val (.int (de % (2 : Int32))), .val (.long ((cl_.toInt64) * (ce_.toInt64))), .second] [(.long (((2147483639 : Int64) / ((cl_.toInt64) * (ce_.toInt64))) / (ce_.toInt64)))])) (fun _ k => XS.ldiv X0.here hx rfl (hb hby at_56) rfl (own_nz2 h3) k) ?_
        refine Go.back (f' := (mkF m 59 #[.val (.int rw_), .val (.int cl_), .val (.int ce_), .val (.int md), .val (.int de), .val (.int rw_), .val (.int cl_), .val (.int ce_), .val (.int mm), .val (.int (de % (2 : Int32))), .val (.long ((cl_.toInt64) * (ce_.toInt64))), .second] [(.int (de % (2 : Int32))), (.long (((2147483639 : Int64) / ((cl_.toInt64) * (ce_.toInt64))) / (ce_.toInt64)))])) (fun _ k => XS.iload X0.here hx rfl (hb hby at_57) rfl k) ?_
        refine Go.back (f' := (mkF m 60 #[.val (.int rw_), .val (.int cl_), .val (.int ce_), .val (.int md), .val (.int de), .val (.int rw_), .val (.int cl_), .val (.int ce_), .val (.int mm), .val (.int (de % (2 : Int32))), .val (.long ((cl_.toInt64) * (ce_.toInt64))), .second] [(.long ((de % (2 : Int32)).toInt64)), (.long (((2147483639 : Int64) / ((cl_.toInt64) * (ce_.toInt64))) / (ce_.toInt64)))])) (fun _ k => XS.i2l X0.here hx rfl (hb hby at_59) rfl k) ?_
        refine Go.back (f' := (mkF m 61 #[.val (.int rw_), .val (.int cl_), .val (.int ce_), .val (.int md), .val (.int de), .val (.int rw_), .val (.int cl_), .val (.int ce_), .val (.int mm), .val (.int (de % (2 : Int32))), .val (.long ((cl_.toInt64) * (ce_.toInt64))), .second] [(.long ((((2147483639 : Int64) / ((cl_.toInt64) * (ce_.toInt64))) / (ce_.toInt64)) + ((de % (2 : Int32)).toInt64)))])) (fun _ k => XS.ladd X0.here hx rfl (hb hby at_60) rfl k) ?_
        refine Go.back (f' := (mkF m 62 #[.val (.int rw_), .val (.int cl_), .val (.int ce_), .val (.int md), .val (.int de), .val (.int rw_), .val (.int cl_), .val (.int ce_), .val (.int mm), .val (.int (de % (2 : Int32))), .val (.long ((cl_.toInt64) * (ce_.toInt64))), .second] [(.int (((((2147483639 : Int64) / ((cl_.toInt64) * (ce_.toInt64))) / (ce_.toInt64)) + ((de % (2 : Int32)).toInt64)).toInt32))])) (fun _ k => XS.l2i X0.here hx rfl (hb hby at_61) rfl k) ?_
        refine Go.back (f' := (mkF m 64 #[.val (.int rw_), .val (.int cl_), .val (.int ce_), .val (.int md), .val (.int de), .val (.int (((((2147483639 : Int64) / ((cl_.toInt64) * (ce_.toInt64))) / (ce_.toInt64)) + ((de % (2 : Int32)).toInt64)).toInt32)), .val (.int cl_), .val (.int ce_), .val (.int mm), .val (.int (de % (2 : Int32))), .val (.long ((cl_.toInt64) * (ce_.toInt64))), .second] [])) (fun _ k => XS.istore X0.here hx rfl (hb hby at_62) rfl (l' := #[.val (.int rw_), .val (.int cl_), .val (.int ce_), .val (.int md), .val (.int de), .val (.int (((((2147483639 : Int64) / ((cl_.toInt64) * (ce_.toInt64))) / (ce_.toInt64)) + ((de % (2 : Int32)).toInt64)).toInt32)), .val (.int cl_), .val (.int ce_), .val (.int mm), .val (.int (de % (2 : Int32))), .val (.long ((cl_.toInt64) * (ce_.toInt64))), .second]) rfl k) ?_
        refine Go.back (f' := (mkF m 93 #[.val (.int rw_), .val (.int cl_), .val (.int ce_), .val (.int md), .val (.int de), .val (.int (((((2147483639 : Int64) / ((cl_.toInt64) * (ce_.toInt64))) / (ce_.toInt64)) + ((de % (2 : Int32)).toInt64)).toInt32)), .val (.int cl_), .val (.int ce_), .val (.int mm), .val (.int (de % (2 : Int32))), .val (.long ((cl_.toInt64) * (ce_.toInt64))), .second] [])) (fun _ k => XS.goto X0.here hx rfl (pc0 := 64) (pc' := 93) rfl (hb hby at_64) (by decide) (by decide) k) ?_
        refine Go.back (f' := (mkF m 95 #[.val (.int rw_), .val (.int cl_), .val (.int ce_), .val (.int md), .val (.int de), .val (.int (((((2147483639 : Int64) / ((cl_.toInt64) * (ce_.toInt64))) / (ce_.toInt64)) + ((de % (2 : Int32)).toInt64)).toInt32)), .val (.int cl_), .val (.int ce_), .val (.int mm), .val (.int (de % (2 : Int32))), .val (.long ((cl_.toInt64) * (ce_.toInt64))), .second] [(.int (((((2147483639 : Int64) / ((cl_.toInt64) * (ce_.toInt64))) / (ce_.toInt64)) + ((de % (2 : Int32)).toInt64)).toInt32))])) (fun _ k => XS.iload X0.here hx rfl (hb hby at_93) rfl k) ?_
        refine Go.back (f' := (mkF m 97 #[.val (.int rw_), .val (.int cl_), .val (.int ce_), .val (.int md), .val (.int de), .val (.int (((((2147483639 : Int64) / ((cl_.toInt64) * (ce_.toInt64))) / (ce_.toInt64)) + ((de % (2 : Int32)).toInt64)).toInt32)), .val (.int cl_), .val (.int ce_), .val (.int mm), .val (.int (de % (2 : Int32))), .val (.long ((cl_.toInt64) * (ce_.toInt64))), .second] [(.int cl_), (.int (((((2147483639 : Int64) / ((cl_.toInt64) * (ce_.toInt64))) / (ce_.toInt64)) + ((de % (2 : Int32)).toInt64)).toInt32))])) (fun _ k => XS.iload X0.here hx rfl (hb hby at_95) rfl k) ?_
        refine Go.back (f' := (mkF m 99 #[.val (.int rw_), .val (.int cl_), .val (.int ce_), .val (.int md), .val (.int de), .val (.int (((((2147483639 : Int64) / ((cl_.toInt64) * (ce_.toInt64))) / (ce_.toInt64)) + ((de % (2 : Int32)).toInt64)).toInt32)), .val (.int cl_), .val (.int ce_), .val (.int mm), .val (.int (de % (2 : Int32))), .val (.long ((cl_.toInt64) * (ce_.toInt64))), .second] [(.int ce_), (.int cl_), (.int (((((2147483639 : Int64) / ((cl_.toInt64) * (ce_.toInt64))) / (ce_.toInt64)) + ((de % (2 : Int32)).toInt64)).toInt32))])) (fun _ k => XS.iload X0.here hx rfl (hb hby at_97) rfl k) ?_
        generalize er : (((((2147483639 : Int64) / ((cl_.toInt64) * (ce_.toInt64))) / (ce_.toInt64)) + ((de % (2 : Int32)).toInt64)).toInt32) = r
        refine Go.callS X0 hx hZ hown (hw _ (List.mem_of_getElem? (i := 1) rfl)) (hw _ (List.mem_of_getElem? (i := 2) rfl)) (hw _ (List.mem_of_getElem? (i := 3) rfl)) (hw _ (List.mem_of_getElem? (i := 4) rfl)) (by decide) e0 (argsL := [(.int r), (.int cl_), (.int ce_)]) (rest := []) (rm1 l Z a0 hw r cl_ ce_ h0) (lenOf pd_0 rfl) rfl (by rw [hml]; rfl) (W := 0) (Nat.le_of_eq rfl) (hb hby at_99) (by decide) (by decide) (by decide) (by decide) ?_
        intro v1 T1 L1 X1 hQ1
        obtain ⟨rfl, rfl, hh1⟩ := hQ1
        show GoG _ _ _ _ _ (mkF m 102 #[.val (.int rw_), .val (.int cl_), .val (.int ce_), .val (.int md), .val (.int de), .val (.int r), .val (.int cl_), .val (.int ce_), .val (.int mm), .val (.int (de % (2 : Int32))), .val (.long ((cl_.toInt64) * (ce_.toInt64))), .second] [(.int (own_b r cl_ ce_))])
        refine Go.back (f' := (mkF m 104 #[.val (.int rw_), .val (.int cl_), .val (.int ce_), .val (.int md), .val (.int de), .val (.int r), .val (.int cl_), .val (.int ce_), .val (.int mm), .val (.int (de % (2 : Int32))), .val (.int (own_b r cl_ ce_)), .unset] [])) (fun _ k => XS.istore X1.here hx rfl (hb hby at_102) rfl (l' := #[.val (.int rw_), .val (.int cl_), .val (.int ce_), .val (.int md), .val (.int de), .val (.int r), .val (.int cl_), .val (.int ce_), .val (.int mm), .val (.int (de % (2 : Int32))), .val (.int (own_b r cl_ ce_)), .unset]) rfl k) ?_
        refine Go.back (f' := (mkF m 106 #[.val (.int rw_), .val (.int cl_), .val (.int ce_), .val (.int md), .val (.int de), .val (.int r), .val (.int cl_), .val (.int ce_), .val (.int mm), .val (.int (de % (2 : Int32))), .val (.int (own_b r cl_ ce_)), .unset] [(.int r)])) (fun _ k => XS.iload X1.here hx rfl (hb hby at_104) rfl k) ?_
        refine Go.back (f' := (mkF m 108 #[.val (.int rw_), .val (.int cl_), .val (.int ce_), .val (.int md), .val (.int de), .val (.int r), .val (.int cl_), .val (.int ce_), .val (.int mm), .val (.int (de % (2 : Int32))), .val (.int (own_b r cl_ ce_)), .unset] [(.int cl_), (.int r)])) (fun _ k => XS.iload X1.here hx rfl (hb hby at_106) rfl k) ?_
        refine Go.back (f' := (mkF m 110 #[.val (.int rw_), .val (.int cl_), .val (.int ce_), .val (.int md), .val (.int de), .val (.int r), .val (.int cl_), .val (.int ce_), .val (.int mm), .val (.int (de % (2 : Int32))), .val (.int (own_b r cl_ ce_)), .unset] [(.int ce_), (.int cl_), (.int r)])) (fun _ k => XS.iload X1.here hx rfl (hb hby at_108) rfl k) ?_
        refine Go.callS X1 hx hZ hown (hw _ (List.mem_of_getElem? (i := 6) rfl)) (hw _ (List.mem_of_getElem? (i := 7) rfl)) (hw _ (List.mem_of_getElem? (i := 8) rfl)) (hw _ (List.mem_of_getElem? (i := 9) rfl)) (by decide) hh1 (argsL := [(.int r), (.int cl_), (.int ce_)]) (rest := []) (rm2 l Z a0 hw r cl_ ce_ h0) (lenOf pd_0 rfl) rfl (by rw [hml]; rfl) (W := 0) (Nat.le_of_eq rfl) (hb hby at_110) (by decide) (by decide) (by decide) (by decide) ?_
        intro v2 T2 L2 X2 hQ2
        obtain ⟨rfl, rfl, hh2⟩ := hQ2
        show GoG _ _ _ _ _ (mkF m 113 #[.val (.int rw_), .val (.int cl_), .val (.int ce_), .val (.int md), .val (.int de), .val (.int r), .val (.int cl_), .val (.int ce_), .val (.int mm), .val (.int (de % (2 : Int32))), .val (.int (own_b r cl_ ce_)), .unset] [(.int (own_b r cl_ ce_))])
        refine Go.back (f' := (mkF m 115 #[.val (.int rw_), .val (.int cl_), .val (.int ce_), .val (.int md), .val (.int de), .val (.int r), .val (.int cl_), .val (.int ce_), .val (.int mm), .val (.int (de % (2 : Int32))), .val (.int (own_b r cl_ ce_)), .unset] [(.int (own_b r cl_ ce_)), (.int (own_b r cl_ ce_))])) (fun _ k => XS.iload X2.here hx rfl (hb hby at_113) rfl k) ?_
        refine Go.back (f' := (mkF m 118 #[.val (.int rw_), .val (.int cl_), .val (.int ce_), .val (.int md), .val (.int de), .val (.int r), .val (.int cl_), .val (.int ce_), .val (.int mm), .val (.int (de % (2 : Int32))), .val (.int (own_b r cl_ ce_)), .unset] [])) (fun _ k => XS.icmpNo X2.here hx rfl (hb hby at_115) rfl (teq rfl).2 k) ?_
        refine Go.back (f' := (mkF m 119 #[.val (.int rw_), .val (.int cl_), .val (.int ce_), .val (.int md), .val (.int de), .val (.int r), .val (.int cl_), .val (.int ce_), .val (.int mm), .val (.int (de % (2 : Int32))), .val (.int (own_b r cl_ ce_)), .unset] [(.int (1 : Int32))])) (fun _ k => XS.iconst X2.here hx rfl (hb hby at_118) k) ?_
        refine Go.back (f' := (mkF m 123 #[.val (.int rw_), .val (.int cl_), .val (.int ce_), .val (.int md), .val (.int de), .val (.int r), .val (.int cl_), .val (.int ce_), .val (.int mm), .val (.int (de % (2 : Int32))), .val (.int (own_b r cl_ ce_)), .unset] [(.int (1 : Int32))])) (fun _ k => XS.goto X2.here hx rfl (pc0 := 119) (pc' := 123) rfl (hb hby at_119) (by decide) (by decide) k) ?_
        exact Go.retN X2 hx (t := .boolean) hret (by simp) (w := (1 : Int32)) rfl hlk (hb hby at_123) (by (try rw [hh2]); exact ⟨rfl, Fr.nil _⟩) (Nat.zero_le _) (Nat.zero_le _)
  · refine Go.back (f' := (mkF m 67 #[.val (.int rw_), .val (.int cl_), .val (.int ce_), .val (.int md), .val (.int de), .val (.int rw_), .val (.int cl_), .val (.int ce_), .val (.int mm), .val (.int (de % (2 : Int32))), .unset, .unset] [])) (fun _ k => XS.icmpYes X0.here hx rfl (pc0 := 23) (pc' := 67) rfl (hb hby at_23) rfl (feq h1).2 (by decide) (by decide) k) ?_
    refine Go.back (f' := (mkF m 69 #[.val (.int rw_), .val (.int cl_), .val (.int ce_), .val (.int md), .val (.int de), .val (.int rw_), .val (.int cl_), .val (.int ce_), .val (.int mm), .val (.int (de % (2 : Int32))), .unset, .unset] [(.int mm)])) (fun _ k => XS.iload X0.here hx rfl (hb hby at_67) rfl k) ?_
    refine Go.back (f' := (mkF m 70 #[.val (.int rw_), .val (.int cl_), .val (.int ce_), .val (.int md), .val (.int de), .val (.int rw_), .val (.int cl_), .val (.int ce_), .val (.int mm), .val (.int (de % (2 : Int32))), .unset, .unset] [(.int (2 : Int32)), (.int mm)])) (fun _ k => XS.iconst X0.here hx rfl (hb hby at_69) k) ?_
    by_cases g1 : mm = (2 : Int32)
    · refine Go.back (f' := (mkF m 73 #[.val (.int rw_), .val (.int cl_), .val (.int ce_), .val (.int md), .val (.int de), .val (.int rw_), .val (.int cl_), .val (.int ce_), .val (.int mm), .val (.int (de % (2 : Int32))), .unset, .unset] [])) (fun _ k => XS.icmpNo X0.here hx rfl (hb hby at_70) rfl (teq g1).2 k) ?_
      refine Go.back (f' := (mkF m 75 #[.val (.int rw_), .val (.int cl_), .val (.int ce_), .val (.int md), .val (.int de), .val (.int rw_), .val (.int cl_), .val (.int ce_), .val (.int mm), .val (.int (de % (2 : Int32))), .unset, .unset] [(.int ce_)])) (fun _ k => XS.iload X0.here hx rfl (hb hby at_73) rfl k) ?_
      refine Go.back (f' := (mkF m 76 #[.val (.int rw_), .val (.int cl_), .val (.int ce_), .val (.int md), .val (.int de), .val (.int rw_), .val (.int cl_), .val (.int ce_), .val (.int mm), .val (.int (de % (2 : Int32))), .unset, .unset] [(.int (1 : Int32)), (.int ce_)])) (fun _ k => XS.iconst X0.here hx rfl (hb hby at_75) k) ?_
      by_cases g2 : ce_ < (1 : Int32)
      · refine Go.back (f' := (mkF m 93 #[.val (.int rw_), .val (.int cl_), .val (.int ce_), .val (.int md), .val (.int de), .val (.int rw_), .val (.int cl_), .val (.int ce_), .val (.int mm), .val (.int (de % (2 : Int32))), .unset, .unset] [])) (fun _ k => XS.icmpYes X0.here hx rfl (pc0 := 76) (pc' := 93) rfl (hb hby at_76) rfl (tlt g2).1 (by decide) (by decide) k) ?_
        refine Go.back (f' := (mkF m 95 #[.val (.int rw_), .val (.int cl_), .val (.int ce_), .val (.int md), .val (.int de), .val (.int rw_), .val (.int cl_), .val (.int ce_), .val (.int mm), .val (.int (de % (2 : Int32))), .unset, .unset] [(.int rw_)])) (fun _ k => XS.iload X0.here hx rfl (hb hby at_93) rfl k) ?_
        refine Go.back (f' := (mkF m 97 #[.val (.int rw_), .val (.int cl_), .val (.int ce_), .val (.int md), .val (.int de), .val (.int rw_), .val (.int cl_), .val (.int ce_), .val (.int mm), .val (.int (de % (2 : Int32))), .unset, .unset] [(.int cl_), (.int rw_)])) (fun _ k => XS.iload X0.here hx rfl (hb hby at_95) rfl k) ?_
        refine Go.back (f' := (mkF m 99 #[.val (.int rw_), .val (.int cl_), .val (.int ce_), .val (.int md), .val (.int de), .val (.int rw_), .val (.int cl_), .val (.int ce_), .val (.int mm), .val (.int (de % (2 : Int32))), .unset, .unset] [(.int ce_), (.int cl_), (.int rw_)])) (fun _ k => XS.iload X0.here hx rfl (hb hby at_97) rfl k) ?_
        refine Go.callS X0 hx hZ hown (hw _ (List.mem_of_getElem? (i := 1) rfl)) (hw _ (List.mem_of_getElem? (i := 2) rfl)) (hw _ (List.mem_of_getElem? (i := 3) rfl)) (hw _ (List.mem_of_getElem? (i := 4) rfl)) (by decide) e0 (argsL := [(.int rw_), (.int cl_), (.int ce_)]) (rest := []) (rm1 l Z a0 hw rw_ cl_ ce_ h0) (lenOf pd_0 rfl) rfl (by rw [hml]; rfl) (W := 0) (Nat.le_of_eq rfl) (hb hby at_99) (by decide) (by decide) (by decide) (by decide) ?_
        intro v1 T1 L1 X1 hQ1
        obtain ⟨rfl, rfl, hh1⟩ := hQ1
        show GoG _ _ _ _ _ (mkF m 102 #[.val (.int rw_), .val (.int cl_), .val (.int ce_), .val (.int md), .val (.int de), .val (.int rw_), .val (.int cl_), .val (.int ce_), .val (.int mm), .val (.int (de % (2 : Int32))), .unset, .unset] [(.int (own_b rw_ cl_ ce_))])
        refine Go.back (f' := (mkF m 104 #[.val (.int rw_), .val (.int cl_), .val (.int ce_), .val (.int md), .val (.int de), .val (.int rw_), .val (.int cl_), .val (.int ce_), .val (.int mm), .val (.int (de % (2 : Int32))), .val (.int (own_b rw_ cl_ ce_)), .unset] [])) (fun _ k => XS.istore X1.here hx rfl (hb hby at_102) rfl (l' := #[.val (.int rw_), .val (.int cl_), .val (.int ce_), .val (.int md), .val (.int de), .val (.int rw_), .val (.int cl_), .val (.int ce_), .val (.int mm), .val (.int (de % (2 : Int32))), .val (.int (own_b rw_ cl_ ce_)), .unset]) rfl k) ?_
        refine Go.back (f' := (mkF m 106 #[.val (.int rw_), .val (.int cl_), .val (.int ce_), .val (.int md), .val (.int de), .val (.int rw_), .val (.int cl_), .val (.int ce_), .val (.int mm), .val (.int (de % (2 : Int32))), .val (.int (own_b rw_ cl_ ce_)), .unset] [(.int rw_)])) (fun _ k => XS.iload X1.here hx rfl (hb hby at_104) rfl k) ?_
        refine Go.back (f' := (mkF m 108 #[.val (.int rw_), .val (.int cl_), .val (.int ce_), .val (.int md), .val (.int de), .val (.int rw_), .val (.int cl_), .val (.int ce_), .val (.int mm), .val (.int (de % (2 : Int32))), .val (.int (own_b rw_ cl_ ce_)), .unset] [(.int cl_), (.int rw_)])) (fun _ k => XS.iload X1.here hx rfl (hb hby at_106) rfl k) ?_
        refine Go.back (f' := (mkF m 110 #[.val (.int rw_), .val (.int cl_), .val (.int ce_), .val (.int md), .val (.int de), .val (.int rw_), .val (.int cl_), .val (.int ce_), .val (.int mm), .val (.int (de % (2 : Int32))), .val (.int (own_b rw_ cl_ ce_)), .unset] [(.int ce_), (.int cl_), (.int rw_)])) (fun _ k => XS.iload X1.here hx rfl (hb hby at_108) rfl k) ?_
        refine Go.callS X1 hx hZ hown (hw _ (List.mem_of_getElem? (i := 6) rfl)) (hw _ (List.mem_of_getElem? (i := 7) rfl)) (hw _ (List.mem_of_getElem? (i := 8) rfl)) (hw _ (List.mem_of_getElem? (i := 9) rfl)) (by decide) hh1 (argsL := [(.int rw_), (.int cl_), (.int ce_)]) (rest := []) (rm2 l Z a0 hw rw_ cl_ ce_ h0) (lenOf pd_0 rfl) rfl (by rw [hml]; rfl) (W := 0) (Nat.le_of_eq rfl) (hb hby at_110) (by decide) (by decide) (by decide) (by decide) ?_
        intro v2 T2 L2 X2 hQ2
        obtain ⟨rfl, rfl, hh2⟩ := hQ2
        show GoG _ _ _ _ _ (mkF m 113 #[.val (.int rw_), .val (.int cl_), .val (.int ce_), .val (.int md), .val (.int de), .val (.int rw_), .val (.int cl_), .val (.int ce_), .val (.int mm), .val (.int (de % (2 : Int32))), .val (.int (own_b rw_ cl_ ce_)), .unset] [(.int (own_b rw_ cl_ ce_))])
        refine Go.back (f' := (mkF m 115 #[.val (.int rw_), .val (.int cl_), .val (.int ce_), .val (.int md), .val (.int de), .val (.int rw_), .val (.int cl_), .val (.int ce_), .val (.int mm), .val (.int (de % (2 : Int32))), .val (.int (own_b rw_ cl_ ce_)), .unset] [(.int (own_b rw_ cl_ ce_)), (.int (own_b rw_ cl_ ce_))])) (fun _ k => XS.iload X2.here hx rfl (hb hby at_113) rfl k) ?_
        refine Go.back (f' := (mkF m 118 #[.val (.int rw_), .val (.int cl_), .val (.int ce_), .val (.int md), .val (.int de), .val (.int rw_), .val (.int cl_), .val (.int ce_), .val (.int mm), .val (.int (de % (2 : Int32))), .val (.int (own_b rw_ cl_ ce_)), .unset] [])) (fun _ k => XS.icmpNo X2.here hx rfl (hb hby at_115) rfl (teq rfl).2 k) ?_
        refine Go.back (f' := (mkF m 119 #[.val (.int rw_), .val (.int cl_), .val (.int ce_), .val (.int md), .val (.int de), .val (.int rw_), .val (.int cl_), .val (.int ce_), .val (.int mm), .val (.int (de % (2 : Int32))), .val (.int (own_b rw_ cl_ ce_)), .unset] [(.int (1 : Int32))])) (fun _ k => XS.iconst X2.here hx rfl (hb hby at_118) k) ?_
        refine Go.back (f' := (mkF m 123 #[.val (.int rw_), .val (.int cl_), .val (.int ce_), .val (.int md), .val (.int de), .val (.int rw_), .val (.int cl_), .val (.int ce_), .val (.int mm), .val (.int (de % (2 : Int32))), .val (.int (own_b rw_ cl_ ce_)), .unset] [(.int (1 : Int32))])) (fun _ k => XS.goto X2.here hx rfl (pc0 := 119) (pc' := 123) rfl (hb hby at_119) (by decide) (by decide) k) ?_
        exact Go.retN X2 hx (t := .boolean) hret (by simp) (w := (1 : Int32)) rfl hlk (hb hby at_123) (by (try rw [hh2]); exact ⟨rfl, Fr.nil _⟩) (Nat.zero_le _) (Nat.zero_le _)
      · refine Go.back (f' := (mkF m 79 #[.val (.int rw_), .val (.int cl_), .val (.int ce_), .val (.int md), .val (.int de), .val (.int rw_), .val (.int cl_), .val (.int ce_), .val (.int mm), .val (.int (de % (2 : Int32))), .unset, .unset] [])) (fun _ k => XS.icmpNo X0.here hx rfl (hb hby at_76) rfl (flt g2).1 k) ?_
        refine Go.back (f' := (mkF m 82 #[.val (.int rw_), .val (.int cl_), .val (.int ce_), .val (.int md), .val (.int de), .val (.int rw_), .val (.int cl_), .val (.int ce_), .val (.int mm), .val (.int (de % (2 : Int32))), .unset, .unset] [(.long (715827879 : Int64))])) (fun _ k => X0.ldc2Long hx hown (mvT hZ (hw _ (List.mem_of_getElem? (i := 5) rfl))) (g := (mkF m 79 #[.val (.int rw_), .val (.int cl_), .val (.int ce_), .val (.int md), .val (.int de), .val (.int rw_), .val (.int cl_), .val (.int ce_), .val (.int mm), .val (.int (de % (2 : Int32))), .unset, .unset] [])) rfl (hb hby at_79) _ k) ?_
        refine Go.back (f' := (mkF m 84 #[.val (.int rw_), .val (.int cl_), .val (.int ce_), .val (.int md), .val (.int de), .val (.int rw_), .val (.int cl_), .val (.int ce_), .val (.int mm), .val (.int (de % (2 : Int32))), .unset, .unset] [(.int ce_), (.long (715827879 : Int64))])) (fun _ k => XS.iload X0.here hx rfl (hb hby at_82) rfl k) ?_
        refine Go.back (f' := (mkF m 85 #[.val (.int rw_), .val (.int cl_), .val (.int ce_), .val (.int md), .val (.int de), .val (.int rw_), .val (.int cl_), .val (.int ce_), .val (.int mm), .val (.int (de % (2 : Int32))), .unset, .unset] [(.long (ce_.toInt64)), (.long (715827879 : Int64))])) (fun _ k => XS.i2l X0.here hx rfl (hb hby at_84) rfl k) ?_
        refine Go.back (f' := (mkF m 86 #[.val (.int rw_), .val (.int cl_), .val (.int ce_), .val (.int md), .val (.int de), .val (.int rw_), .val (.int cl_), .val (.int ce_), .val (.int mm), .val (.int (de % (2 : Int32))), .unset, .unset] [(.long ((715827879 : Int64) / (ce_.toInt64)))])) (fun _ k => XS.ldiv X0.here hx rfl (hb hby at_85) rfl (own_nz2 g2) k) ?_
        refine Go.back (f' := (mkF m 88 #[.val (.int rw_), .val (.int cl_), .val (.int ce_), .val (.int md), .val (.int de), .val (.int rw_), .val (.int cl_), .val (.int ce_), .val (.int mm), .val (.int (de % (2 : Int32))), .unset, .unset] [(.int (de % (2 : Int32))), (.long ((715827879 : Int64) / (ce_.toInt64)))])) (fun _ k => XS.iload X0.here hx rfl (hb hby at_86) rfl k) ?_
        refine Go.back (f' := (mkF m 89 #[.val (.int rw_), .val (.int cl_), .val (.int ce_), .val (.int md), .val (.int de), .val (.int rw_), .val (.int cl_), .val (.int ce_), .val (.int mm), .val (.int (de % (2 : Int32))), .unset, .unset] [(.long ((de % (2 : Int32)).toInt64)), (.long ((715827879 : Int64) / (ce_.toInt64)))])) (fun _ k => XS.i2l X0.here hx rfl (hb hby at_88) rfl k) ?_
        refine Go.back (f' := (mkF m 90 #[.val (.int rw_), .val (.int cl_), .val (.int ce_), .val (.int md), .val (.int de), .val (.int rw_), .val (.int cl_), .val (.int ce_), .val (.int mm), .val (.int (de % (2 : Int32))), .unset, .unset] [(.long (((715827879 : Int64) / (ce_.toInt64)) + ((de % (2 : Int32)).toInt64)))])) (fun _ k => XS.ladd X0.here hx rfl (hb hby at_89) rfl k) ?_
        refine Go.back (f' := (mkF m 91 #[.val (.int rw_), .val (.int cl_), .val (.int ce_), .val (.int md), .val (.int de), .val (.int rw_), .val (.int cl_), .val (.int ce_), .val (.int mm), .val (.int (de % (2 : Int32))), .unset, .unset] [(.int ((((715827879 : Int64) / (ce_.toInt64)) + ((de % (2 : Int32)).toInt64)).toInt32))])) (fun _ k => XS.l2i X0.here hx rfl (hb hby at_90) rfl k) ?_
        refine Go.back (f' := (mkF m 93 #[.val (.int rw_), .val (.int cl_), .val (.int ce_), .val (.int md), .val (.int de), .val (.int rw_), .val (.int ((((715827879 : Int64) / (ce_.toInt64)) + ((de % (2 : Int32)).toInt64)).toInt32)), .val (.int ce_), .val (.int mm), .val (.int (de % (2 : Int32))), .unset, .unset] [])) (fun _ k => XS.istore X0.here hx rfl (hb hby at_91) rfl (l' := #[.val (.int rw_), .val (.int cl_), .val (.int ce_), .val (.int md), .val (.int de), .val (.int rw_), .val (.int ((((715827879 : Int64) / (ce_.toInt64)) + ((de % (2 : Int32)).toInt64)).toInt32)), .val (.int ce_), .val (.int mm), .val (.int (de % (2 : Int32))), .unset, .unset]) rfl k) ?_
        refine Go.back (f' := (mkF m 95 #[.val (.int rw_), .val (.int cl_), .val (.int ce_), .val (.int md), .val (.int de), .val (.int rw_), .val (.int ((((715827879 : Int64) / (ce_.toInt64)) + ((de % (2 : Int32)).toInt64)).toInt32)), .val (.int ce_), .val (.int mm), .val (.int (de % (2 : Int32))), .unset, .unset] [(.int rw_)])) (fun _ k => XS.iload X0.here hx rfl (hb hby at_93) rfl k) ?_
        refine Go.back (f' := (mkF m 97 #[.val (.int rw_), .val (.int cl_), .val (.int ce_), .val (.int md), .val (.int de), .val (.int rw_), .val (.int ((((715827879 : Int64) / (ce_.toInt64)) + ((de % (2 : Int32)).toInt64)).toInt32)), .val (.int ce_), .val (.int mm), .val (.int (de % (2 : Int32))), .unset, .unset] [(.int ((((715827879 : Int64) / (ce_.toInt64)) + ((de % (2 : Int32)).toInt64)).toInt32)), (.int rw_)])) (fun _ k => XS.iload X0.here hx rfl (hb hby at_95) rfl k) ?_
        refine Go.back (f' := (mkF m 99 #[.val (.int rw_), .val (.int cl_), .val (.int ce_), .val (.int md), .val (.int de), .val (.int rw_), .val (.int ((((715827879 : Int64) / (ce_.toInt64)) + ((de % (2 : Int32)).toInt64)).toInt32)), .val (.int ce_), .val (.int mm), .val (.int (de % (2 : Int32))), .unset, .unset] [(.int ce_), (.int ((((715827879 : Int64) / (ce_.toInt64)) + ((de % (2 : Int32)).toInt64)).toInt32)), (.int rw_)])) (fun _ k => XS.iload X0.here hx rfl (hb hby at_97) rfl k) ?_
        generalize ec : ((((715827879 : Int64) / (ce_.toInt64)) + ((de % (2 : Int32)).toInt64)).toInt32) = c'
        refine Go.callS X0 hx hZ hown (hw _ (List.mem_of_getElem? (i := 1) rfl)) (hw _ (List.mem_of_getElem? (i := 2) rfl)) (hw _ (List.mem_of_getElem? (i := 3) rfl)) (hw _ (List.mem_of_getElem? (i := 4) rfl)) (by decide) e0 (argsL := [(.int rw_), (.int c'), (.int ce_)]) (rest := []) (rm1 l Z a0 hw rw_ c' ce_ h0) (lenOf pd_0 rfl) rfl (by rw [hml]; rfl) (W := 0) (Nat.le_of_eq rfl) (hb hby at_99) (by decide) (by decide) (by decide) (by decide) ?_
        intro v1 T1 L1 X1 hQ1
        obtain ⟨rfl, rfl, hh1⟩ := hQ1
        show GoG _ _ _ _ _ (mkF m 102 #[.val (.int rw_), .val (.int cl_), .val (.int ce_), .val (.int md), .val (.int de), .val (.int rw_), .val (.int c'), .val (.int ce_), .val (.int mm), .val (.int (de % (2 : Int32))), .unset, .unset] [(.int (own_b rw_ c' ce_))])
        refine Go.back (f' := (mkF m 104 #[.val (.int rw_), .val (.int cl_), .val (.int ce_), .val (.int md), .val (.int de), .val (.int rw_), .val (.int c'), .val (.int ce_), .val (.int mm), .val (.int (de % (2 : Int32))), .val (.int (own_b rw_ c' ce_)), .unset] [])) (fun _ k => XS.istore X1.here hx rfl (hb hby at_102) rfl (l' := #[.val (.int rw_), .val (.int cl_), .val (.int ce_), .val (.int md), .val (.int de), .val (.int rw_), .val (.int c'), .val (.int ce_), .val (.int mm), .val (.int (de % (2 : Int32))), .val (.int (own_b rw_ c' ce_)), .unset]) rfl k) ?_
        refine Go.back (f' := (mkF m 106 #[.val (.int rw_), .val (.int cl_), .val (.int ce_), .val (.int md), .val (.int de), .val (.int rw_), .val (.int c'), .val (.int ce_), .val (.int mm), .val (.int (de % (2 : Int32))), .val (.int (own_b rw_ c' ce_)), .unset] [(.int rw_)])) (fun _ k => XS.iload X1.here hx rfl (hb hby at_104) rfl k) ?_
        refine Go.back (f' := (mkF m 108 #[.val (.int rw_), .val (.int cl_), .val (.int ce_), .val (.int md), .val (.int de), .val (.int rw_), .val (.int c'), .val (.int ce_), .val (.int mm), .val (.int (de % (2 : Int32))), .val (.int (own_b rw_ c' ce_)), .unset] [(.int c'), (.int rw_)])) (fun _ k => XS.iload X1.here hx rfl (hb hby at_106) rfl k) ?_
        refine Go.back (f' := (mkF m 110 #[.val (.int rw_), .val (.int cl_), .val (.int ce_), .val (.int md), .val (.int de), .val (.int rw_), .val (.int c'), .val (.int ce_), .val (.int mm), .val (.int (de % (2 : Int32))), .val (.int (own_b rw_ c' ce_)), .unset] [(.int ce_), (.int c'), (.int rw_)])) (fun _ k => XS.iload X1.here hx rfl (hb hby at_108) rfl k) ?_
        refine Go.callS X1 hx hZ hown (hw _ (List.mem_of_getElem? (i := 6) rfl)) (hw _ (List.mem_of_getElem? (i := 7) rfl)) (hw _ (List.mem_of_getElem? (i := 8) rfl)) (hw _ (List.mem_of_getElem? (i := 9) rfl)) (by decide) hh1 (argsL := [(.int rw_), (.int c'), (.int ce_)]) (rest := []) (rm2 l Z a0 hw rw_ c' ce_ h0) (lenOf pd_0 rfl) rfl (by rw [hml]; rfl) (W := 0) (Nat.le_of_eq rfl) (hb hby at_110) (by decide) (by decide) (by decide) (by decide) ?_
        intro v2 T2 L2 X2 hQ2
        obtain ⟨rfl, rfl, hh2⟩ := hQ2
        show GoG _ _ _ _ _ (mkF m 113 #[.val (.int rw_), .val (.int cl_), .val (.int ce_), .val (.int md), .val (.int de), .val (.int rw_), .val (.int c'), .val (.int ce_), .val (.int mm), .val (.int (de % (2 : Int32))), .val (.int (own_b rw_ c' ce_)), .unset] [(.int (own_b rw_ c' ce_))])
        refine Go.back (f' := (mkF m 115 #[.val (.int rw_), .val (.int cl_), .val (.int ce_), .val (.int md), .val (.int de), .val (.int rw_), .val (.int c'), .val (.int ce_), .val (.int mm), .val (.int (de % (2 : Int32))), .val (.int (own_b rw_ c' ce_)), .unset] [(.int (own_b rw_ c' ce_)), (.int (own_b rw_ c' ce_))])) (fun _ k => XS.iload X2.here hx rfl (hb hby at_113) rfl k) ?_
        refine Go.back (f' := (mkF m 118 #[.val (.int rw_), .val (.int cl_), .val (.int ce_), .val (.int md), .val (.int de), .val (.int rw_), .val (.int c'), .val (.int ce_), .val (.int mm), .val (.int (de % (2 : Int32))), .val (.int (own_b rw_ c' ce_)), .unset] [])) (fun _ k => XS.icmpNo X2.here hx rfl (hb hby at_115) rfl (teq rfl).2 k) ?_
        refine Go.back (f' := (mkF m 119 #[.val (.int rw_), .val (.int cl_), .val (.int ce_), .val (.int md), .val (.int de), .val (.int rw_), .val (.int c'), .val (.int ce_), .val (.int mm), .val (.int (de % (2 : Int32))), .val (.int (own_b rw_ c' ce_)), .unset] [(.int (1 : Int32))])) (fun _ k => XS.iconst X2.here hx rfl (hb hby at_118) k) ?_
        refine Go.back (f' := (mkF m 123 #[.val (.int rw_), .val (.int cl_), .val (.int ce_), .val (.int md), .val (.int de), .val (.int rw_), .val (.int c'), .val (.int ce_), .val (.int mm), .val (.int (de % (2 : Int32))), .val (.int (own_b rw_ c' ce_)), .unset] [(.int (1 : Int32))])) (fun _ k => XS.goto X2.here hx rfl (pc0 := 119) (pc' := 123) rfl (hb hby at_119) (by decide) (by decide) k) ?_
        exact Go.retN X2 hx (t := .boolean) hret (by simp) (w := (1 : Int32)) rfl hlk (hb hby at_123) (by (try rw [hh2]); exact ⟨rfl, Fr.nil _⟩) (Nat.zero_le _) (Nat.zero_le _)
    · refine Go.back (f' := (mkF m 93 #[.val (.int rw_), .val (.int cl_), .val (.int ce_), .val (.int md), .val (.int de), .val (.int rw_), .val (.int cl_), .val (.int ce_), .val (.int mm), .val (.int (de % (2 : Int32))), .unset, .unset] [])) (fun _ k => XS.icmpYes X0.here hx rfl (pc0 := 70) (pc' := 93) rfl (hb hby at_70) rfl (feq g1).2 (by decide) (by decide) k) ?_
      refine Go.back (f' := (mkF m 95 #[.val (.int rw_), .val (.int cl_), .val (.int ce_), .val (.int md), .val (.int de), .val (.int rw_), .val (.int cl_), .val (.int ce_), .val (.int mm), .val (.int (de % (2 : Int32))), .unset, .unset] [(.int rw_)])) (fun _ k => XS.iload X0.here hx rfl (hb hby at_93) rfl k) ?_
      refine Go.back (f' := (mkF m 97 #[.val (.int rw_), .val (.int cl_), .val (.int ce_), .val (.int md), .val (.int de), .val (.int rw_), .val (.int cl_), .val (.int ce_), .val (.int mm), .val (.int (de % (2 : Int32))), .unset, .unset] [(.int cl_), (.int rw_)])) (fun _ k => XS.iload X0.here hx rfl (hb hby at_95) rfl k) ?_
      refine Go.back (f' := (mkF m 99 #[.val (.int rw_), .val (.int cl_), .val (.int ce_), .val (.int md), .val (.int de), .val (.int rw_), .val (.int cl_), .val (.int ce_), .val (.int mm), .val (.int (de % (2 : Int32))), .unset, .unset] [(.int ce_), (.int cl_), (.int rw_)])) (fun _ k => XS.iload X0.here hx rfl (hb hby at_97) rfl k) ?_
      refine Go.callS X0 hx hZ hown (hw _ (List.mem_of_getElem? (i := 1) rfl)) (hw _ (List.mem_of_getElem? (i := 2) rfl)) (hw _ (List.mem_of_getElem? (i := 3) rfl)) (hw _ (List.mem_of_getElem? (i := 4) rfl)) (by decide) e0 (argsL := [(.int rw_), (.int cl_), (.int ce_)]) (rest := []) (rm1 l Z a0 hw rw_ cl_ ce_ h0) (lenOf pd_0 rfl) rfl (by rw [hml]; rfl) (W := 0) (Nat.le_of_eq rfl) (hb hby at_99) (by decide) (by decide) (by decide) (by decide) ?_
      intro v1 T1 L1 X1 hQ1
      obtain ⟨rfl, rfl, hh1⟩ := hQ1
      show GoG _ _ _ _ _ (mkF m 102 #[.val (.int rw_), .val (.int cl_), .val (.int ce_), .val (.int md), .val (.int de), .val (.int rw_), .val (.int cl_), .val (.int ce_), .val (.int mm), .val (.int (de % (2 : Int32))), .unset, .unset] [(.int (own_b rw_ cl_ ce_))])
      refine Go.back (f' := (mkF m 104 #[.val (.int rw_), .val (.int cl_), .val (.int ce_), .val (.int md), .val (.int de), .val (.int rw_), .val (.int cl_), .val (.int ce_), .val (.int mm), .val (.int (de % (2 : Int32))), .val (.int (own_b rw_ cl_ ce_)), .unset] [])) (fun _ k => XS.istore X1.here hx rfl (hb hby at_102) rfl (l' := #[.val (.int rw_), .val (.int cl_), .val (.int ce_), .val (.int md), .val (.int de), .val (.int rw_), .val (.int cl_), .val (.int ce_), .val (.int mm), .val (.int (de % (2 : Int32))), .val (.int (own_b rw_ cl_ ce_)), .unset]) rfl k) ?_
      refine Go.back (f' := (mkF m 106 #[.val (.int rw_), .val (.int cl_), .val (.int ce_), .val (.int md), .val (.int de), .val (.int rw_), .val (.int cl_), .val (.int ce_), .val (.int mm), .val (.int (de % (2 : Int32))), .val (.int (own_b rw_ cl_ ce_)), .unset] [(.int rw_)])) (fun _ k => XS.iload X1.here hx rfl (hb hby at_104) rfl k) ?_
      refine Go.back (f' := (mkF m 108 #[.val (.int rw_), .val (.int cl_), .val (.int ce_), .val (.int md), .val (.int de), .val (.int rw_), .val (.int cl_), .val (.int ce_), .val (.int mm), .val (.int (de % (2 : Int32))), .val (.int (own_b rw_ cl_ ce_)), .unset] [(.int cl_), (.int rw_)])) (fun _ k => XS.iload X1.here hx rfl (hb hby at_106) rfl k) ?_
      refine Go.back (f' := (mkF m 110 #[.val (.int rw_), .val (.int cl_), .val (.int ce_), .val (.int md), .val (.int de), .val (.int rw_), .val (.int cl_), .val (.int ce_), .val (.int mm), .val (.int (de % (2 : Int32))), .val (.int (own_b rw_ cl_ ce_)), .unset] [(.int ce_), (.int cl_), (.int rw_)])) (fun _ k => XS.iload X1.here hx rfl (hb hby at_108) rfl k) ?_
      refine Go.callS X1 hx hZ hown (hw _ (List.mem_of_getElem? (i := 6) rfl)) (hw _ (List.mem_of_getElem? (i := 7) rfl)) (hw _ (List.mem_of_getElem? (i := 8) rfl)) (hw _ (List.mem_of_getElem? (i := 9) rfl)) (by decide) hh1 (argsL := [(.int rw_), (.int cl_), (.int ce_)]) (rest := []) (rm2 l Z a0 hw rw_ cl_ ce_ h0) (lenOf pd_0 rfl) rfl (by rw [hml]; rfl) (W := 0) (Nat.le_of_eq rfl) (hb hby at_110) (by decide) (by decide) (by decide) (by decide) ?_
      intro v2 T2 L2 X2 hQ2
      obtain ⟨rfl, rfl, hh2⟩ := hQ2
      show GoG _ _ _ _ _ (mkF m 113 #[.val (.int rw_), .val (.int cl_), .val (.int ce_), .val (.int md), .val (.int de), .val (.int rw_), .val (.int cl_), .val (.int ce_), .val (.int mm), .val (.int (de % (2 : Int32))), .val (.int (own_b rw_ cl_ ce_)), .unset] [(.int (own_b rw_ cl_ ce_))])
      refine Go.back (f' := (mkF m 115 #[.val (.int rw_), .val (.int cl_), .val (.int ce_), .val (.int md), .val (.int de), .val (.int rw_), .val (.int cl_), .val (.int ce_), .val (.int mm), .val (.int (de % (2 : Int32))), .val (.int (own_b rw_ cl_ ce_)), .unset] [(.int (own_b rw_ cl_ ce_)), (.int (own_b rw_ cl_ ce_))])) (fun _ k => XS.iload X2.here hx rfl (hb hby at_113) rfl k) ?_
      refine Go.back (f' := (mkF m 118 #[.val (.int rw_), .val (.int cl_), .val (.int ce_), .val (.int md), .val (.int de), .val (.int rw_), .val (.int cl_), .val (.int ce_), .val (.int mm), .val (.int (de % (2 : Int32))), .val (.int (own_b rw_ cl_ ce_)), .unset] [])) (fun _ k => XS.icmpNo X2.here hx rfl (hb hby at_115) rfl (teq rfl).2 k) ?_
      refine Go.back (f' := (mkF m 119 #[.val (.int rw_), .val (.int cl_), .val (.int ce_), .val (.int md), .val (.int de), .val (.int rw_), .val (.int cl_), .val (.int ce_), .val (.int mm), .val (.int (de % (2 : Int32))), .val (.int (own_b rw_ cl_ ce_)), .unset] [(.int (1 : Int32))])) (fun _ k => XS.iconst X2.here hx rfl (hb hby at_118) k) ?_
      refine Go.back (f' := (mkF m 123 #[.val (.int rw_), .val (.int cl_), .val (.int ce_), .val (.int md), .val (.int de), .val (.int rw_), .val (.int cl_), .val (.int ce_), .val (.int mm), .val (.int (de % (2 : Int32))), .val (.int (own_b rw_ cl_ ce_)), .unset] [(.int (1 : Int32))])) (fun _ k => XS.goto X2.here hx rfl (pc0 := 119) (pc' := 123) rfl (hb hby at_119) (by decide) (by decide) k) ?_
      exact Go.retN X2 hx (t := .boolean) hret (by simp) (w := (1 : Int32)) rfl hlk (hb hby at_123) (by (try rw [hh2]); exact ⟨rfl, Fr.nil _⟩) (Nat.zero_le _) (Nat.zero_le _)
set_option maxRecDepth 65536 in
set_option maxHeartbeats 40000000 in
theorem comes_1 {Post : Tables → Env → Array Value → State → Outcome → State → Prop} (hpost : ∀ tb e args s v u, (limb_1_1.after args s (.returned v) u = true ∧ limb_1_2.after args s (.returned v) u = true ∧ True) → FrameEnd s (.returned v) u (Jvm.fieldLocs frame_1_writes args s ++ Jvm.arrayLocs frame_1_arrays args s ++ Jvm.staticLocs frame_1_statics s) 0 0 → Post tb e args s (.returned v) u) :
    ArmFor flags0 classFile x code maxLocals ret World_1 tables_1 room_1 Calls_1 rest_1 Pre_1 Post := by
  intro l hfl _ _ p e ha hc hk s m args below hf hA hF happ hP
  obtain ⟨hcalls, hrest, hpre⟩ := hP
  obtain ⟨-, -, -, hnamed, -, -, -, hat⟩ := (Spec.applies_iff hf).mp happ
  obtain ⟨hg, hn⟩ := and_e (Cond.before_iff.mp (show (Jvm.Cond.and given_1 narrow_1).before args s = true from hpre))
  obtain ⟨hcnt, hg0⟩ := and_e hg
  obtain ⟨ht0, hg1⟩ := and_e hg0
  obtain ⟨ht1, hg2⟩ := and_e hg1
  obtain ⟨ht2, hg3⟩ := and_e hg2
  obtain ⟨ht3, hg4⟩ := and_e hg3
  have ht4 := hg4
  obtain ⟨w0, w1, w2, w3, w4, rfl⟩ : ∃ w0 w1 w2 w3 w4 : Value, args = #[w0, w1, w2, w3, w4] := by
    have hs : args.size = 5 := by simpa [Cond.value, given_1] using hcnt
    obtain ⟨L⟩ := args
    match L, hs with
    | [w0, w1, w2, w3, w4], _ => exact ⟨w0, w1, w2, w3, w4, rfl⟩
  have hw := fun d (hd : d ∈ tables_1) => atoms_spec (ws := Jvm.Cond.code x code maxLocals ret :: tables_1) hat d (List.mem_cons_of_mem _ hd)
  have hfit : Fit s := fun {y c} hc i hi => by
    obtain ⟨ha, rfl⟩ := Array.getElem?_eq_some_iff.mp hc
    have q := List.all_eq_true.mp ((Array.all_eq_true_iff_forall_mem.mp hF) _ (Array.getElem_mem ha)) i (List.mem_range.mpr hi)
    simpa [Array.getElem?_eq_getElem hi] using q
  obtain ⟨i0, ei0⟩ := is_v ht0
  obtain rfl : w0 = (.int i0) := Option.some.inj ei0
  obtain ⟨i1, ei1⟩ := is_v ht1
  obtain rfl : w1 = (.int i1) := Option.some.inj ei1
  obtain ⟨i2, ei2⟩ := is_v ht2
  obtain rfl : w2 = (.int i2) := Option.some.inj ei2
  obtain ⟨i3, ei3⟩ := is_v ht3
  obtain rfl : w3 = (.int i3) := Option.some.inj ei3
  obtain ⟨i4, ei4⟩ := is_v ht4
  obtain rfl : w4 = (.int i4) := Option.some.inj ei4
  obtain ⟨n, o, h1, h2, h3, _, L, rfl, ⟨rfl, N⟩, hq⟩ := (rm0 l s _ hw i0 i1 i2 i3 i4 s.heap.size s.heap) tables_1 p e ha hc hk s m _ below hf ((Spec.applies_iff_loose hf).mp happ).1 ⟨rfl, State.Warmed39.refl s, rfl⟩ trivial
  refine ⟨n, _, h1, h2, h3, hpost _ _ _ _ _ _ ⟨Cond.after_iff.mpr rfl, Cond.after_iff.mpr (eq_i res_at (Term.int_eval (1)) rfl), trivial⟩ ⟨hq.1, hq.2.1, (hq.2.2.sift fun y hy => Or.inr (N y hy)).mono (by decide) (by decide)⟩⟩
theorem main_1_1 : Claimed_1_1 := comes_1 fun _ _ _ _ _ _ h hF => ⟨h.1, hF⟩
theorem main_1_2 : Claimed_1_2 := comes_1 fun _ _ _ _ _ _ h hF => ⟨h.2.1, hF⟩
end Jvm.Pilot.@@N@@
namespace Jvm.Pilot.@@N@@
open Jvm Jvm.ClassFile Sem Op Lib Jvm.Free Jvm.Stand Jvm.Pilot.@@N@@.Jvm.D
/-! MADE BY PROGRAM (witnessworld.py) out of the Statement's table words and the real class files: 7 classes; the members and pool entries that the words name. The judged class is class 1, her method 2. -/
namespace start1
open Jvm.ClassFile
def u (s : String) : CpInfo := .utf8 (stringToUtf16 s)
/-- a pool by its gaps: so many unusable entries, then the entry; so many at the end -/
def gap : Nat → List CpInfo → List CpInfo
  | 0, r => r
  | n + 1, r => .unusable :: gap n r
def poolList (es : List (Nat × CpInfo)) (last : Nat) : List CpInfo := es.foldr (fun e r => gap e.1 (e.2 :: r)) (gap last [])
def pool (es : List (Nat × CpInfo)) (last : Nat) : Array CpInfo := ⟨poolList es last⟩
def fileOf (pool : Array CpInfo) (this : Nat) (attrs : Array Attribute := #[]) (ms : Array MethodInfo := #[]) (fl : Nat := 33) (sup : Nat := 0) (ifs : Array Nat := #[]) (fds : Array FieldInfo := #[]) : ClassFile where
  minorVersion := 0
  majorVersion := 65
  constantPool := pool
  accessFlags := fl
  thisClass := this
  superClass := sup
  interfaces := ifs
  fields := fds
  methods := ms
  attributes := attrs
def plain (name : String) (sup : Option ClassId) : Class where
  name := name
  kind := .ordinary
  loader := none
  accessFlags := 33
  super := sup
  interfaces := #[]
  cf := none
  fields := #[]
  methods := #[]
  instanceTypes := #[]
  staticTypes := #[]
  resolved := #[]
  callSites := []
  init := .initialized
  statics := none
  mirror := none

def pool0 : Array CpInfo := pool [(5, u "<init>"), (0, u "()V"), (1, .class_ 10), (1, u "java/lang/Object")] 113

def k0m0 : Method := { name := "<init>", desc := "()V", sig := { parameters := [], returnType := none }, accessFlags := 1, code := none }
/-- java/lang/Object -/
def k0 : Class := { plain "java/lang/Object" none with
  accessFlags := 33
  interfaces := #[]
  cf := some (fileOf pool0 8 #[] #[{ accessFlags := 1, nameIndex := 5, descriptorIndex := 6, attributes := #[] }] 33 0 #[] #[])
  fields := #[]
  methods := #[k0m0]
  instanceTypes := #[]
  staticTypes := #[]
  resolved := Array.replicate 124 none
  statics := none }

def pool1 : Array CpInfo := pool [(2, .class_ 4), (1, u "java/lang/Object"), (0, u "<init>"), (0, u "()V"), (0, .long 715827879), (1, .long 2147483639), (1, .methodref 12 13), (0, .class_ 14), (0, .nameAndType 15 16), (0, u "com/example/brisk_matrix/briskmatrix/render/MatrixImageFitsPinLaw"), (0, u "expectedFits"), (0, u "(III)Z"), (0, .methodref 18 19), (0, .class_ 20), (0, .nameAndType 21 16), (0, u "com/example/brisk_matrix/briskmatrix/render/MatrixImage"), (0, u "fits"), (3, u "law"), (0, u "(IIIII)Z")] 2

def k1m0 : Method := { name := "<init>", desc := "()V", sig := { parameters := [], returnType := none }, accessFlags := 2, code := none }
def k1c1 : Code := { maxStack := 6, maxLocals := 5, code := method_2_code, exceptionTable := #[], attributes := #[] }
def k1m1 : Method := { name := "expectedFits", desc := "(III)Z", sig := { parameters := [.int, .int, .int], returnType := some .boolean }, accessFlags := 10, code := some k1c1 }
def k1c2 : Code := { maxStack := 4, maxLocals := 12, code := code, exceptionTable := #[], attributes := #[] }
def k1m2 : Method := { name := "law", desc := "(IIIII)Z", sig := { parameters := [.int, .int, .int, .int, .int], returnType := some .boolean }, accessFlags := 9, code := some k1c2 }
/-- com/example/brisk_matrix/briskmatrix/render/MatrixImageFitsPinLaw -/
def k1 : Class := { plain "com/example/brisk_matrix/briskmatrix/render/MatrixImageFitsPinLaw" (some 0) with
  accessFlags := 49
  interfaces := #[]
  cf := some (fileOf pool1 12 #[] #[{ accessFlags := 2, nameIndex := 5, descriptorIndex := 6, attributes := #[] }, { accessFlags := 10, nameIndex := 15, descriptorIndex := 16, attributes := #[] }, { accessFlags := 9, nameIndex := 25, descriptorIndex := 26, attributes := #[] }] 49 2 #[] #[])
  fields := #[]
  methods := #[k1m0, k1m1, k1m2]
  instanceTypes := #[]
  staticTypes := #[]
  resolved := Array.replicate 29 none
  statics := none }

def pool2 : Array CpInfo := pool [(4, .class_ 6), (1, u "java/lang/Object"), (0, u "<init>"), (0, u "()V"), (13, .class_ 24), (1, u "com/example/brisk_matrix/briskmatrix/render/MatrixImage"), (21, u "fits"), (0, u "(III)Z"), (76, .long 715827879), (1, .long 2147483639), (104, u "NO_VALUE"), (0, u "I"), (1, u "MAX_PIXELS"), (0, u "J"), (0, u "MAX_WIDTH"), (0, u "NEAR_HALF"), (0, u "D")] 33

def k2m0 : Method := { name := "<init>", desc := "()V", sig := { parameters := [], returnType := none }, accessFlags := 2, code := none }
def k2c1 : Code := { maxStack := 4, maxLocals := 7, code := prog_48_method_5_code, exceptionTable := #[], attributes := #[] }
def k2m1 : Method := { name := "fits", desc := "(III)Z", sig := { parameters := [.int, .int, .int], returnType := some .boolean }, accessFlags := 9, code := some k2c1 }
/-- com/example/brisk_matrix/briskmatrix/render/MatrixImage -/
def k2 : Class := { plain "com/example/brisk_matrix/briskmatrix/render/MatrixImage" (some 0) with
  accessFlags := 33
  interfaces := #[]
  cf := some (fileOf pool2 22 #[] #[{ accessFlags := 2, nameIndex := 7, descriptorIndex := 8, attributes := #[] }, { accessFlags := 9, nameIndex := 46, descriptorIndex := 47, attributes := #[] }] 33 4 #[] #[{ accessFlags := 24, nameIndex := 231, descriptorIndex := 232, attributes := #[] }, { accessFlags := 25, nameIndex := 234, descriptorIndex := 235, attributes := #[] }, { accessFlags := 25, nameIndex := 236, descriptorIndex := 235, attributes := #[] }, { accessFlags := 26, nameIndex := 237, descriptorIndex := 238, attributes := #[] }])
  fields := #[{ name := "NO_VALUE", type := .int, accessFlags := 24, slot := 0, constantValue := 0 }, { name := "MAX_PIXELS", type := .long, accessFlags := 25, slot := 1, constantValue := 0 }, { name := "MAX_WIDTH", type := .long, accessFlags := 25, slot := 2, constantValue := 0 }, { name := "NEAR_HALF", type := .double, accessFlags := 26, slot := 3, constantValue := 0 }]
  methods := #[k2m0, k2m1]
  instanceTypes := #[]
  staticTypes := #[.int, .long, .long, .double]
  resolved := Array.replicate 272 none
  statics := none }

def pool3 : Array CpInfo := pool [(1, u "java/lang/Cloneable"), (0, .class_ 1), (0, u "java/lang/Object"), (0, .class_ 3)] 3

/-- java/lang/Cloneable -/
def k3 : Class := { plain "java/lang/Cloneable" (some 0) with
  accessFlags := 1537
  interfaces := #[]
  cf := some (fileOf pool3 2 #[] #[] 1537 4 #[] #[])
  fields := #[]
  methods := #[]
  instanceTypes := #[]
  staticTypes := #[]
  resolved := Array.replicate 8 none
  statics := none }

def pool4 : Array CpInfo := pool [(1, u "java/io/Serializable"), (0, .class_ 1), (0, u "java/lang/Object"), (0, .class_ 3)] 3

/-- java/io/Serializable -/
def k4 : Class := { plain "java/io/Serializable" (some 0) with
  accessFlags := 1537
  interfaces := #[]
  cf := some (fileOf pool4 2 #[] #[] 1537 4 #[] #[])
  fields := #[]
  methods := #[]
  instanceTypes := #[]
  staticTypes := #[]
  resolved := Array.replicate 8 none
  statics := none }

/-- the primitive byte -/
def k5 : Class := { plain "byte" none with kind := .primitive 'B', accessFlags := 0x411 }
/-- [B -/
def k6 : Class := { plain "[B" (some 0) with kind := .array 5 .byte, interfaces := #[3, 4], accessFlags := 1041 }

def heap : Heap := #[]
def classes : Array Class := #[k0, k1, k2, k3, k4, k5, k6]
def interned : List (Array UInt16 × Addr) := []
def slotsUsed : Nat := 0
def theMethod : MethodId := ⟨1, 2⟩
def args0 : Array Value := #[.int 1, .int 2, .int 3, .int 4, .int 5]
def aboutOver (below : List Frame) : State where
  vm := { classes := classes, interned := interned.toArray }
  heap := heap
  slotsUsed := slotsUsed
  threads := #[{ frames := .invoking theMethod args0 :: below }]
def below0 : List Frame := [.native { method := ⟨0, 0⟩, args := #[] }]
def about1 : State := aboutOver below0
def p0 : Program := .bare "" "" ""
def e0 : Env := launch0.env 0 0 0
theorem w_frames : about1.frames = Frame.invoking theMethod args0 :: below0 := rfl
set_option maxRecDepth 65536 in
theorem w_args : argsFit about1.vm theMethod args0 = true := by decide +kernel
set_option maxRecDepth 65536 in
theorem w_heap : heapFits about1 = true := by decide +kernel
set_option maxRecDepth 65536 in
theorem w_runnable : about1.curStatus? = some .runnable := by decide +kernel
set_option maxRecDepth 65536 in
theorem w_alone : about1.alone = true := by decide +kernel
set_option maxRecDepth 65536 in
theorem w_named : about1.methodNamed? x = some theMethod := by decide +kernel
set_option maxRecDepth 65536 in
theorem w_hears : about1.hears theMethod below0 = true := by decide +kernel
set_option maxRecDepth 65536 in
theorem w_ripe : about1.ripe theMethod args0 below0 = true := by decide +kernel
theorem w_running : about1.status = .running := rfl
set_option maxRecDepth 65536 in
theorem w_room : about1.hasRoom e0.platform room_1 = true :=
  launch0.hasRoom_least _ room_1 (by decide +kernel) (by decide +kernel) (by decide +kernel) (by decide +kernel) (by decide +kernel) (by decide +kernel)
theorem allAtoms_all (ts : List Jvm.Cond) (a : Array Jvm.Value) (st : Jvm.State) : (allAtoms ts).before a st = ts.all (fun c => c.before a st) := by
  induction ts with
  | nil => rfl
  | cons c t ih =>
    show (Jvm.Cond.and c (allAtoms t)).before a st = _
    rw [Jvm.Cond.before_and, ih, List.all_cons]
def words1 : List Jvm.Cond := Jvm.Cond.code x code maxLocals ret :: tables_1
/-- a 'code' word, met by the world's own term for the bytes: nothing is compared byte by byte -/
theorem code_word {y : MethodName} {bytes : ByteArray} {mx : Nat} {rt : Option FieldType} {a : Array Value} {s : State} {m : MethodId} {meth : Method} {c : Code} (h1 : s.methodNamed? y = some m) (h2 : s.vm.method? m = some meth) (h3 : meth.code = some c) (h4 : c.code = bytes)
    (h5 : (c.maxLocals == mx && c.exceptionTable.isEmpty && decide (c.maxStack ≤ mostOperands) && decide (meth.sig.returnType = rt) && !meth.locks && decide (parseMethodDescriptor y.desc = some meth.sig)) = true) : (Jvm.Cond.code y bytes mx rt).before a s = true := by
  simp only [Bool.and_eq_true, beq_iff_eq, Bool.not_eq_true', decide_eq_true_eq] at h5
  obtain ⟨⟨⟨⟨⟨g1, g2⟩, g3⟩, g4⟩, g5⟩, g6⟩ := h5
  simp [Cond.before, Cond.holds, Cond.value, h1, h2, h3, h4, g1, g2, g3, g4, g5, g6]
def isCode : Jvm.Cond → Bool
  | .code _ _ _ _ => true
  | _ => false
theorem all_split {L : List Jvm.Cond} {P : Jvm.Cond → Bool} (h1 : L.all (fun c => isCode c || P c) = true) (h2 : ∀ c ∈ L.filter isCode, P c = true) : L.all P = true := by
  refine List.all_eq_true.mpr fun c hc => ?_
  have h := List.all_eq_true.mp h1 c hc
  rcases Bool.eq_false_or_eq_true (isCode c) with hi | hi
  · exact h2 c (List.mem_filter.mpr ⟨hc, hi⟩)
  · simpa [hi] using h
set_option maxRecDepth 65536 in
theorem w_c0 : (Jvm.Cond.code x code maxLocals ret).before args0 about1 = true := code_word (m := ⟨1, 2⟩) (meth := k1m2) (c := k1c2) (by decide +kernel) rfl rfl rfl (by decide +kernel)
set_option maxRecDepth 65536 in
theorem w_c1 : (Jvm.Cond.code ({ cls := "com/example/brisk_matrix/briskmatrix/render/MatrixImageFitsPinLaw", name := "expectedFits", desc := "(III)Z" } : Jvm.MethodName) method_2_code (5 : Nat) (Option.some Jvm.ClassFile.FieldType.boolean)).before args0 about1 = true := code_word (m := ⟨1, 1⟩) (meth := k1m1) (c := k1c1) (by decide +kernel) rfl rfl rfl (by decide +kernel)
set_option maxRecDepth 65536 in
theorem w_c2 : (Jvm.Cond.code ({ cls := "com/example/brisk_matrix/briskmatrix/render/MatrixImage", name := "fits", desc := "(III)Z" } : Jvm.MethodName) prog_48_method_5_code (7 : Nat) (Option.some Jvm.ClassFile.FieldType.boolean)).before args0 about1 = true := code_word (m := ⟨2, 1⟩) (meth := k2m1) (c := k2c1) (by decide +kernel) rfl rfl rfl (by decide +kernel)
def codes1 : List Jvm.Cond := [Jvm.Cond.code x code maxLocals ret, Jvm.Cond.code ({ cls := "com/example/brisk_matrix/briskmatrix/render/MatrixImageFitsPinLaw", name := "expectedFits", desc := "(III)Z" } : Jvm.MethodName) method_2_code (5 : Nat) (Option.some Jvm.ClassFile.FieldType.boolean), Jvm.Cond.code ({ cls := "com/example/brisk_matrix/briskmatrix/render/MatrixImage", name := "fits", desc := "(III)Z" } : Jvm.MethodName) prog_48_method_5_code (7 : Nat) (Option.some Jvm.ClassFile.FieldType.boolean)]
set_option maxRecDepth 65536 in
theorem codes_eq : words1.filter isCode = codes1 := rfl
theorem w_codes : ∀ c ∈ words1.filter isCode, c.before args0 about1 = true := by
  rw [codes_eq]
  intro c hc
  simp only [codes1, List.mem_cons, List.not_mem_nil, or_false] at hc
  rcases hc with rfl | rfl | rfl
  · exact w_c0
  · exact w_c1
  · exact w_c2
set_option maxRecDepth 65536 in
theorem w_t1 : words1.all (fun c => isCode c || c.before args0 about1) = true := by decide +kernel
theorem w_tables : (allAtoms (Jvm.Cond.code x code maxLocals ret :: tables_1)).before args0 about1 = true := by
  rw [allAtoms_all]
  show words1.all (fun c => c.before args0 about1) = true
  refine all_split ?_ w_codes
  rw [w_t1]
set_option maxRecDepth 65536 in
theorem w_case : (Jvm.Cond.and given_1 narrow_1).before args0 about1 = true := by decide +kernel
theorem w_applies : (headSpec (Jvm.Cond.code x code maxLocals ret :: tables_1) room_1).applies x e0.platform about1 = true :=
  (Spec.applies_iff w_frames).mpr ⟨w_running, w_runnable, w_alone, w_named, w_hears, w_ripe, w_room, w_tables⟩
theorem atStart : AtStart classFile x code maxLocals ret World_1 tables_1 room_1 Calls_1 rest_1 Pre_1 launch0 p0 e0 about1 theMethod args0 below0 :=
  ⟨lists_1, trivial, launch0.admits_env _ _ _, launch0.least_env, fairChoices_fair.cas, fairChoices_fair.clock, w_frames, w_args, w_heap, w_applies, trivial, trivial, w_case⟩
end start1
theorem witness_1 : WitnessClaimed_1 := ⟨start1.p0, start1.e0, start1.about1, start1.theMethod, start1.args0, start1.below0, start1.atStart⟩
end Jvm.Pilot.@@N@@
