import JvmDerived
import JvmDerived.Pilot.@@N@@Statement
import JvmDerived.Pilot.@@N@@Code
set_option linter.unusedVariables false
set_option linter.unusedSimpArgs false
namespace Jvm.OwnKit
open Sem ClassFile Op Lib Jvm.Stand Jvm.Free Jvm.LawKit Jvm.RoadKit
section Core
variable {p : Program} {l : Launch} {e : Env} {R : Room} {s : State} {m : MethodId} {args : Array Value} {below : List Frame} {meth : Method} {c : Code} {T T' : State} {locs : List Loc} {cells slots : Nat} {Z : State} {a0 : Array Value} {h : Heap}
  {Q Q' : Option Value → Heap → List Loc → Prop} {kc ks : Nat} {F : Outcome → State → Prop}
/-- from the frame f over T the body comes to its end, and F holds there -/
def GoG (p : Program) (e : Env) (below : List Frame) (F : Outcome → State → Prop) (T : State) (f : JFrame) : Prop :=
  ∃ t o, Steps p.tables e below (T.setTop f) t ∧ t.status = .running ∧ Ended t below o ∧ F o t
/-- .. Q holds there, and the frame is kept -/
def Fin (s : State) (Q : Option Value → Heap → List Loc → Prop) (kc ks : Nat) : Outcome → State → Prop := fun o t => ∃ v L, o = .returned v ∧ Q v t.heap L ∧ FrameEnd s o t L kc ks
abbrev Go (p : Program) (e : Env) (below : List Frame) (s : State) (Q : Option Value → Heap → List Loc → Prop) (kc ks : Nat) (T : State) (f : JFrame) : Prop := GoG p e below (Fin s Q kc ks) T f
theorem Go.back {f f' : JFrame} (st : ∀ t, Steps p.tables e below (T'.setTop f') t → Steps p.tables e below (T.setTop f) t) (k : GoG p e below F T' f') : GoG p e below F T f := by
  obtain ⟨t, o, h1, h2⟩ := k; exact ⟨t, o, st _ h1, h2⟩
theorem Go.cast {f f' : JFrame} (q : f = f') (k : GoG p e below F T f') : GoG p e below F T f := q ▸ k
theorem Go.imp {f : JFrame} (q : ∀ v h L, Q' v h L → Q v h L) (k : Go p e below s Q' kc ks T f) : Go p e below s Q kc ks T f := by
  obtain ⟨t, o, h1, h2, h3, v, L, h4, h5, h6⟩ := k; exact ⟨t, o, h1, h2, h3, v, L, h4, q _ _ _ h5, h6⟩
theorem Go.done (X : Stand p l e R s m args below meth c T locs cells slots) {v : Option Value} {f0 : JFrame} (hv : meth.sig.returnType = none → v = none) (hlk : meth.locks = false)
    (st : ∀ fs, (∀ (f : JFrame) (acts : List Action), f.method = m → f.locked = none → f.entered = [] → (doReturn e (T.setTop f) acts v).1 = T.setFrames fs) → Steps p.tables e below (T.setTop f0) (T.setFrames fs))
    (hQ : Q v T.heap locs) (hc : cells ≤ kc) (hs : slots ≤ ks) : Go p e below s Q kc ks T f0 := by
  obtain ⟨fs, hr, hrun, hended, hW, hsame⟩ := X.leave (v := v) hv hlk
  exact ⟨_, _, st fs hr, hrun, hended, v, locs, rfl, hQ, ⟨_, rfl⟩, hW, hsame.mono hc hs⟩
theorem Go.retI (X : Stand p l e R s m args below meth c T locs cells slots) (hx : p.tables.exec = Jvm.exec) {pc : Nat} {Ls : Array Slot} {z : Int32} {rest : List Value} (hret : meth.sig.returnType = some .int) (hlk : meth.locks = false) (hd : decode c.code pc = .ok (.ireturn, 1))
    (hQ : Q (some (.int z)) T.heap locs) (hc : cells ≤ kc) (hs : slots ≤ ks) : Go p e below s Q kc ks T (mkF m pc Ls (.int z :: rest)) :=
  Go.done X (fun q => by rw [hret] at q; cases q) hlk (fun _ hl => retOut X hx hret rfl (Or.inl ⟨rfl, Or.inl rfl, z, rfl⟩) hd hl) hQ hc hs
theorem Go.retJ (X : Stand p l e R s m args below meth c T locs cells slots) (hx : p.tables.exec = Jvm.exec) {pc : Nat} {Ls : Array Slot} {z : Int64} {rest : List Value} (hret : meth.sig.returnType = some .long) (hlk : meth.locks = false) (hd : decode c.code pc = .ok (.lreturn, 1))
    (hQ : Q (some (.long z)) T.heap locs) (hc : cells ≤ kc) (hs : slots ≤ ks) : Go p e below s Q kc ks T (mkF m pc Ls (.long z :: rest)) :=
  Go.done X (fun q => by rw [hret] at q; cases q) hlk (fun _ hl => retOut X hx hret rfl (Or.inr (Or.inl ⟨rfl, rfl, z, rfl⟩)) hd hl) hQ hc hs
theorem narrow_ref {t : FieldType} {w : Value} (hw : w.isRef = true) : narrow t w = w := by
  cases w <;> simp [Value.isRef] at hw <;> cases t <;> rfl
theorem Go.retA (X : Stand p l e R s m args below meth c T locs cells slots) (hx : p.tables.exec = Jvm.exec) {pc : Nat} {Ls : Array Slot} {w : Value} {t : FieldType} {rest : List Value} (hret : meth.sig.returnType = some t) (hlk : meth.locks = false) (hd : decode c.code pc = .ok (.areturn, 1)) (ht : t.isReference = true) (hw : w.isRef = true)
    (hQ : Q (some w) T.heap locs) (hc : cells ≤ kc) (hs : slots ≤ ks) : Go p e below s Q kc ks T (mkF m pc Ls (w :: rest)) :=
  Go.done X (fun q => by rw [hret] at q; cases q) hlk (fun _ hl => retOut X hx hret (narrow_ref hw) (Or.inr (Or.inr (Or.inr (Or.inr ⟨rfl, ht, hw⟩)))) hd hl) hQ hc hs
theorem Go.ret0 (X : Stand p l e R s m args below meth c T locs cells slots) (hx : p.tables.exec = Jvm.exec) {pc : Nat} {Ls : Array Slot} (hret : meth.sig.returnType = none) (hlk : meth.locks = false) (hd : decode c.code pc = .ok (.return_, 1))
    (hQ : Q none T.heap locs) (hc : cells ≤ kc) (hs : slots ≤ ks) : Go p e below s Q kc ks T (mkF m pc Ls []) :=
  Go.done X (fun _ => rfl) hlk (fun _ hl => X.returnOut hx hret hd hl) hQ hc hs
theorem Go.retN (X : Stand p l e R s m args below meth c T locs cells slots) (hx : p.tables.exec = Jvm.exec) {pc : Nat} {Ls : Array Slot} {z w : Int32} {t : FieldType} {rest : List Value} (hret : meth.sig.returnType = some t) (ht : t = .boolean ∨ t = .byte ∨ t = .char ∨ t = .short) (hw : nar t z = w) (hlk : meth.locks = false) (hd : decode c.code pc = .ok (.ireturn, 1))
    (hQ : Q (some (.int w)) T.heap locs) (hc : cells ≤ kc) (hs : slots ≤ ks) : Go p e below s Q kc ks T (mkF m pc Ls (.int z :: rest)) :=
  Go.done X (fun q => by rw [hret] at q; cases q) hlk (fun _ hl => Jvm.RoadKit.retN X hx hret ht hd (by rw [hw]; exact hl)) hQ hc hs
theorem nar_bool {z : Int32} (hz : z = 0 ∨ z = 1) : nar .boolean z = z := by rcases hz with rfl | rfl <;> rfl
/-- a body's contract, said of one heap and one array of arguments -/
def Met (l : Launch) (Z : State) (y : MethodName) (bytes : ByteArray) (maxL : Nat) (ret : Option FieldType) (rm : Room) (as' : Array Value) (h : Heap) (Q : Option Value → Heap → List Loc → Prop) : Prop :=
  ∀ ws : List Jvm.Cond, MetFree l y (head1 (Jvm.Cond.code y bytes maxL ret :: ws) rm) (fun a U => a = as' ∧ Z.Warmed39 U.vm ∧ U.heap = h) (fun _ _ _ _ _ => True) (fun _ U o U' => ∃ v L, o = .returned v ∧ Q v U'.heap L ∧ FrameEnd U o U' L rm.cells rm.slots)
variable {y z : MethodName} {bytes : ByteArray} {maxL : Nat} {ret : Option FieldType} {rm : Room} {as' : Array Value}
theorem Met.intro (hp : plainFor y = true) (body : ∀ (p : Program) (e : Env) (s : State) (m : MethodId) (below : List Frame) (meth : Method) (c : Code) (T : State),
      p.tables.exec = Jvm.exec → c.code = bytes → c.maxLocals = maxL → s.vm.findClass y.cls = some m.cls → meth.name = y.name → meth.sig.returnType = ret → meth.locks = false → Z.Warmed39 s.vm →
      Stand p l e rm s m as' below meth c T [] 0 0 → T.heap = h → Go p e below s Q rm.cells rm.slots T (entryFrame m as' maxL)) : Met l Z y bytes maxL ret rm as' h Q := by
  intro ws
  refine MetFree.of_bodySF hp hisR ?_
  intro p e s m args below meth c s₁ Bd hml0 hP hK
  obtain ⟨rfl, hZ, hh⟩ := hP
  exact body p e s m below meth c s₁ Bd.exec Bd.bytes hml0 (findClass_of_methodNamed Bd.named) (name_of_methodNamed Bd.named Bd.method).1 Bd.returns Bd.notSynchronized hZ (Stand.of_body Bd) (by rw [← hh, Bd.state]; rfl)
theorem Met.imp (q : ∀ v h L, Q' v h L → Q v h L) (k : Met l Z y bytes maxL ret rm as' h Q') : Met l Z y bytes maxL ret rm as' h Q := fun ws p e ha hc hk s m args below hf happ hP hK => by
  obtain ⟨n, o, h1, h2, h3, v, L, h4, h5, h6⟩ := k ws p e ha hc hk s m args below hf happ hP hK
  exact ⟨n, o, h1, h2, h3, v, L, h4, q _ _ _ h5, h6⟩
theorem Go.callS (X : Stand p l e R s m args below meth c T locs cells slots) (hx : p.tables.exec = Jvm.exec) (hZ : Z.Warmed39 s.vm) {own : String} {index : Nat} (hown : s.vm.findClass own = some m.cls)
    (w1 : (Jvm.Cond.methodLink own index y).before a0 Z = true) (w2 : (Jvm.Cond.static y).before a0 Z = true) (w3 : (Jvm.Cond.initialized y.cls).before a0 Z = true) (w4 : (Jvm.Cond.code y bytes maxL ret).before a0 Z = true)
    (hy : y.cls ≠ "java/lang/invoke/MethodHandle" ∧ y.cls ≠ "java/lang/invoke/VarHandle") (eT : T.heap = h) {argsL rest st : List Value} (hM : Met l Z y bytes maxL ret rm argsL.toArray h Q')
    (hlen : ∀ sig, parseMethodDescriptor y.desc = some sig → argsL.length = sig.parameters.length) {pc : Nat} {Ls : Array Slot} (hst : st = argsL.reverse ++ rest) (hsz : Ls.size = c.maxLocals) {W : Nat} (hW : 2 * 0 + (rest.map fun v => v.category).sum ≤ W)
    (hd : decode c.code pc = .ok (.invokestatic index, 3)) (hf : rm.frames + 1 ≤ R.frames) (hl : W + (maxL + 11) + rm.locals ≤ R.locals) (hc : cells + rm.cells ≤ R.cells) (hs : slots + rm.slots ≤ R.slots)
    (k : ∀ v T' L, Stand p l e R s m args below meth c T' (locs ++ L) (cells + rm.cells) (slots + rm.slots) → Q' v T'.heap L → GoG p e below F T' (mkF m (pc + 3) Ls (v.toList ++ rest))) :
    GoG p e below F T (mkF m pc Ls st) := by
  subst hst
  obtain ⟨v, _, ⟨T1, L1, k1, n1⟩, -, X1, ⟨Lc, hQ, l1, y1, z1⟩, st1⟩ := Jvm.LawKit.callS X hx (y := y) hown (mvT hZ w1) (mvT hZ w2) (mvT hZ w3) (mvT hZ w4) hy (backOf (W := W) (hM []) hZ w4 w3 hf hl) (g := mkF m pc Ls (argsL.reverse ++ rest)) rfl hsz (argsL := argsL) (rest := rest) hlen rfl hW hd (fun _ _ => ⟨rfl, eT, hc, hs⟩)
  dsimp only [Pt.U, Pt.locs, Pt.cells, Pt.slots] at X1 l1 y1 z1 st1 hQ
  subst l1 y1 z1
  exact Go.back st1 (k v T1 Lc X1 hQ)
theorem Go.callI (X : Stand p l e R s m args below meth c T locs cells slots) (hx : p.tables.exec = Jvm.exec) (hZ : Z.Warmed39 s.vm) {own : String} {index : Nat} (hy1 : y.name = "<init>") (hown : s.vm.findClass own = some m.cls)
    (w1 : (Jvm.Cond.methodLink own index y).before a0 Z = true) (w2 : (Jvm.Cond.instanceMethod y).before a0 Z = true) (w3 : (Jvm.Cond.initialized y.cls).before a0 Z = true) (w4 : (Jvm.Cond.code y bytes maxL none).before a0 Z = true)
    (hy : y.cls ≠ "java/lang/invoke/MethodHandle" ∧ y.cls ≠ "java/lang/invoke/VarHandle") (eT : T.heap = h) {a : Addr} {argsL rest st : List Value} (hM : Met l Z y bytes maxL none rm (.ref a :: argsL).toArray h Q')
    (hlen : ∀ sig, parseMethodDescriptor y.desc = some sig → argsL.length = sig.parameters.length) {pc : Nat} {Ls : Array Slot} (hst : st = argsL.reverse ++ .ref a :: rest) (hsz : Ls.size = c.maxLocals) {W : Nat} (hW : 2 * 0 + (rest.map fun v => v.category).sum ≤ W)
    (hd : decode c.code pc = .ok (.invokespecial index, 3)) (hf : rm.frames + 1 ≤ R.frames) (hl : W + (maxL + 11) + rm.locals ≤ R.locals) (hc : cells + rm.cells ≤ R.cells) (hs : slots + rm.slots ≤ R.slots)
    (k : ∀ v T' L, Stand p l e R s m args below meth c T' (locs ++ L) (cells + rm.cells) (slots + rm.slots) → Q' v T'.heap L → GoG p e below F T' (mkF m (pc + 3) Ls (v.toList ++ rest))) :
    GoG p e below F T (mkF m pc Ls st) := by
  subst hst
  obtain ⟨v, _, ⟨T1, L1, k1, n1⟩, -, X1, ⟨Lc, hQ, l1, y1, z1⟩, st1⟩ := X.specialBack hx (y := y) hy1 hown (mvT hZ w1) (mvT hZ w2) (mvT hZ w4) hy (backOf (W := W) (hM []) hZ w4 w3 hf hl) (g := mkF m pc Ls (argsL.reverse ++ .ref a :: rest)) rfl hsz (Steps.refl _) (a := a) (argsL := argsL) (rest := rest) hlen rfl hW hd (fun _ _ => ⟨rfl, eT, hc, hs⟩)
  dsimp only [Pt.U, Pt.locs, Pt.cells, Pt.slots] at X1 l1 y1 z1 st1 hQ
  subst l1 y1 z1
  exact Go.back (fun _ q => st1.trans q) (k v T1 Lc X1 hQ)
theorem Go.callV (X : Stand p l e R s m args below meth c T locs cells slots) (hx : p.tables.exec = Jvm.exec) (hZ : Z.Warmed39 s.vm) {own C : String} {index : Nat} (hown : s.vm.findClass own = some m.cls)
    (w1 : (Jvm.Cond.methodLink own index y).before a0 Z = true) (w2 : (Jvm.Cond.declares y).before a0 Z = true) (w3 : (Jvm.Cond.selects C y y).before a0 Z = true) (w4 : (Jvm.Cond.instanceMethod y).before a0 Z = true)
    (w5 : (Jvm.Cond.initialized y.cls).before a0 Z = true) (w6 : (Jvm.Cond.code y bytes maxL ret).before a0 Z = true)
    (hy : y.cls ≠ "java/lang/invoke/MethodHandle" ∧ y.cls ≠ "java/lang/invoke/VarHandle") (eT : T.heap = h) {a : Addr} (E : Exa Z h a C) {argsL rest st : List Value} (hM : Met l Z y bytes maxL ret rm (.ref a :: argsL).toArray h Q')
    (hlen : ∀ sig, parseMethodDescriptor y.desc = some sig → argsL.length = sig.parameters.length) {pc : Nat} {Ls : Array Slot} (hst : st = argsL.reverse ++ .ref a :: rest) (hsz : Ls.size = c.maxLocals) {W : Nat} (hW : 2 * 0 + (rest.map fun v => v.category).sum ≤ W)
    (hd : decode c.code pc = .ok (.invokevirtual index, 3)) (hf : rm.frames + 1 ≤ R.frames) (hl : W + (maxL + 11) + rm.locals ≤ R.locals) (hc : cells + rm.cells ≤ R.cells) (hs : slots + rm.slots ≤ R.slots)
    (k : ∀ v T' L, Stand p l e R s m args below meth c T' (locs ++ L) (cells + rm.cells) (slots + rm.slots) → Q' v T'.heap L → GoG p e below F T' (mkF m (pc + 3) Ls (v.toList ++ rest))) :
    GoG p e below F T (mkF m pc Ls st) := by
  subst hst
  obtain ⟨cq, kq, qa, qb, qc⟩ := isOf hZ eT E
  obtain ⟨v, _, ⟨T1, L1, k1, n1⟩, -, X1, ⟨Lc, hQ, l1, y1, z1⟩, st1⟩ := X.virtualBack hx (y := y) (z := y) hown (mvT hZ w1) (mvT hZ w2) (notFace_of_selects (args := #[]) (mvT hZ w3)) (mvT hZ w3) (mvT hZ w4) hy (backOf (W := W) (hM []) hZ w6 w5 hf hl) qa qc (g := mkF m pc Ls (argsL.reverse ++ .ref a :: rest)) rfl hsz (Steps.refl _) (argsL := argsL) (rest := rest) hlen rfl hW hd (fun _ _ => ⟨rfl, eT, hc, hs⟩)
  dsimp only [Pt.U, Pt.locs, Pt.cells, Pt.slots] at X1 l1 y1 z1 st1 hQ
  subst l1 y1 z1
  exact Go.back (fun _ q => st1.trans q) (k v T1 Lc X1 hQ)
end Core
section Cmp
theorem l_lt_t {x y : Int64} (h : x < y) : ifCond.holds .lt (lcmpW x y) = true := (if0 _ _).trans (tlt ((lw_lt x y).mpr h)).1
theorem l_lt_f {x y : Int64} (h : ¬ x < y) : ifCond.holds .lt (lcmpW x y) = false := (if0 _ _).trans (flt (fun q => h ((lw_lt x y).mp q))).1
theorem l_ge_t {x y : Int64} (h : ¬ x < y) : ifCond.holds .ge (lcmpW x y) = true := (if0 _ _).trans (flt (fun q => h ((lw_lt x y).mp q))).2.1
theorem l_ge_f {x y : Int64} (h : x < y) : ifCond.holds .ge (lcmpW x y) = false := (if0 _ _).trans (tlt ((lw_lt x y).mpr h)).2.1
theorem l_gt_t {x y : Int64} (h : y < x) : ifCond.holds .gt (lcmpW x y) = true := (if0 _ _).trans (tlt ((lw_gt x y).mpr h)).2.2.1
theorem l_gt_f {x y : Int64} (h : ¬ y < x) : ifCond.holds .gt (lcmpW x y) = false := (if0 _ _).trans (flt (fun q => h ((lw_gt x y).mp q))).2.2.1
theorem l_le_t {x y : Int64} (h : ¬ y < x) : ifCond.holds .le (lcmpW x y) = true := (if0 _ _).trans (flt (fun q => h ((lw_gt x y).mp q))).2.2.2
theorem l_le_f {x y : Int64} (h : y < x) : ifCond.holds .le (lcmpW x y) = false := (if0 _ _).trans (tlt ((lw_gt x y).mpr h)).2.2.2
theorem l_eq_t {x y : Int64} (h : x = y) : ifCond.holds .eq (lcmpW x y) = true := (if0 _ _).trans (teq ((lw_eq x y).mpr h)).1
theorem l_eq_f {x y : Int64} (h : ¬ x = y) : ifCond.holds .eq (lcmpW x y) = false := (if0 _ _).trans (feq (fun q => h ((lw_eq x y).mp q))).1
theorem l_ne_t {x y : Int64} (h : ¬ x = y) : ifCond.holds .ne (lcmpW x y) = true := (if0 _ _).trans (feq (fun q => h ((lw_eq x y).mp q))).2
theorem l_ne_f {x y : Int64} (h : x = y) : ifCond.holds .ne (lcmpW x y) = false := (if0 _ _).trans (teq ((lw_eq x y).mpr h)).2
end Cmp
end Jvm.OwnKit
namespace Jvm.Pilot.@@N@@
open Jvm Jvm.ClassFile Sem Op Lib Jvm.Free Jvm.Stand Jvm.LawKit Jvm.RoadKit Bundle Jvm.OwnKit Jvm.Pilot.@@N@@.Jvm.D
theorem d1_0 : decode prog_72_method_1_code 0 = .ok (.iload_n 0, 1) := by decide +kernel
theorem d1_1 : decode prog_72_method_1_code 1 = .ok (.iload_n 3, 1) := by decide +kernel
theorem d1_2 : decode prog_72_method_1_code 2 = .ok (.bipush 8, 2) := by decide +kernel
theorem d1_4 : decode prog_72_method_1_code 4 = .ok (.idiv, 1) := by decide +kernel
theorem d1_5 : decode prog_72_method_1_code 5 = .ok (.iload_n 1, 1) := by decide +kernel
theorem d1_6 : decode prog_72_method_1_code 6 = .ok (.imul, 1) := by decide +kernel
theorem d1_7 : decode prog_72_method_1_code 7 = .ok (.iadd, 1) := by decide +kernel
theorem d1_8 : decode prog_72_method_1_code 8 = .ok (.iload_n 2, 1) := by decide +kernel
theorem d1_9 : decode prog_72_method_1_code 9 = .ok (.bipush 8, 2) := by decide +kernel
theorem d1_11 : decode prog_72_method_1_code 11 = .ok (.imul, 1) := by decide +kernel
theorem d1_12 : decode prog_72_method_1_code 12 = .ok (.iadd, 1) := by decide +kernel
theorem d1_13 : decode prog_72_method_1_code 13 = .ok (.iload_n 3, 1) := by decide +kernel
theorem d1_14 : decode prog_72_method_1_code 14 = .ok (.bipush 8, 2) := by decide +kernel
theorem d1_16 : decode prog_72_method_1_code 16 = .ok (.irem, 1) := by decide +kernel
theorem d1_17 : decode prog_72_method_1_code 17 = .ok (.iadd, 1) := by decide +kernel
theorem d1_18 : decode prog_72_method_1_code 18 = .ok (.ireturn, 1) := by decide +kernel
theorem pd_0 : parseMethodDescriptor "(IIII)I" = some ⟨[.int, .int, .int, .int], some .int⟩ := by decide +kernel

theorem own_m (ms : Int32) : ((ms &&& 255) + 1).toInt = ms.toInt % 256 + 1 := by
  have a : (ms &&& 255).toInt = ms.toInt % 256 := c_mask ms 255 8 (by decide) (by decide)
  have q := c_iadd (ms &&& 255) 1
  have r := rng32 ((ms &&& 255) + 1)
  have e1 : (1 : Int32).toInt = 1 := rfl
  omega
theorem own_nz {m : Int32} (h : 1 ≤ m.toInt) : ¬ m = 0 := fun q => by
  rw [q] at h; have e : (0 : Int32).toInt = 0 := rfl; omega
theorem own_tc (m : Int32) (h1 : 1 ≤ m.toInt) (h2 : m.toInt ≤ 256) : (8 * m).toInt = 8 * m.toInt := by
  have q := c_imul 8 m
  have r := rng32 (8 * m)
  have e8 : (8 : Int32).toInt = 8 := rfl
  rw [e8] at q
  omega
theorem own_co (ti pl : Int32) (h1 : 0 ≤ ti.toInt) (h2 : ti.toInt < 268435456) (h3 : 0 ≤ pl.toInt) (h4 : pl.toInt < 8) : (ti * 8 + pl).toInt = ti.toInt * 8 + pl.toInt ∧ ((ti * 8 + pl) / 8).toInt = ti.toInt ∧ ((ti * 8 + pl) % 8).toInt = pl.toInt := by
  have q := c_imul ti 8
  have r := rng32 (ti * 8)
  have e8 : (8 : Int32).toInt = 8 := rfl
  rw [e8] at q
  have q' := c_iadd (ti * 8) pl
  have r' := rng32 (ti * 8 + pl)
  have e : (ti * 8 + pl).toInt = ti.toInt * 8 + pl.toInt := by omega
  have d := (c_idiv (ti * 8 + pl) 8 8 rfl (by decide)).1 (by omega)
  have d' := (c_irem (ti * 8 + pl) 8 8 rfl).1 (by omega)
  exact ⟨e, by omega, by omega⟩
theorem own_law (off m tc sy ti pl co got : Int32) (wi : Int64) (m1 : 1 ≤ m.toInt) (m2 : m.toInt ≤ 256) (htc : 8 * m = tc) (s1 : 0 ≤ sy.toInt) (s2 : sy.toInt < m.toInt) (t1 : 0 ≤ ti.toInt) (t2 : ti.toInt < 268435456) (p1 : 0 ≤ pl.toInt) (p2 : pl.toInt < 8)
    (hco : ti * 8 + pl = co) (hg : off + co / 8 * tc + sy * 8 + co % 8 = got) (hwi : ti.toInt64 * tc.toInt64 + sy.toInt64 * 8 + pl.toInt64 = wi) :
    got = (off.toInt64 + wi).toInt32 ∧ (¬ 2147483647 < wi → ¬ got - off < 0 ∧ (got - off) % 8 = pl ∧ (got - off) % tc / 8 = sy ∧ (got - off) / tc = ti) := by
  obtain ⟨c1, c2, c3⟩ := own_co ti pl t1 t2 p1 p2
  rw [hco] at c1 c2 c3
  have hT := own_tc m m1 m2
  rw [htc] at hT
  have e8 : (8 : Int32).toInt = 8 := rfl
  have e8' : (8 : Int64).toInt = 8 := rfl
  have e0 : (0 : Int32).toInt = 0 := rfl
  have eM : (2147483647 : Int64).toInt = 2147483647 := rfl
  obtain ⟨J, hJ⟩ : ∃ J, J = ti.toInt * m.toInt := ⟨_, rfl⟩
  have hK : ti.toInt * tc.toInt = 8 * J := by rw [hT, hJ]; exact Int.mul_left_comm _ _ _
  have j0 : 0 ≤ J := by rw [hJ]; exact Int.mul_nonneg t1 (by omega)
  have j1 : J ≤ 268435455 * m.toInt := by rw [hJ]; exact Int.mul_le_mul_of_nonneg_right (by omega) (by omega)
  have k1 := c_imul (co / 8) tc
  rw [c2, hK] at k1
  have k2 := c_imul sy 8
  rw [e8] at k2
  have k3 := c_iadd off (co / 8 * tc)
  have k4 := c_iadd (off + co / 8 * tc) (sy * 8)
  have k5 := c_iadd (off + co / 8 * tc + sy * 8) (co % 8)
  rw [c3, hg] at k5
  have w1 := c_lmul ti.toInt64 tc.toInt64
  rw [c_i2l, c_i2l, hK] at w1
  have w2 := c_lmul sy.toInt64 8
  rw [c_i2l, e8'] at w2
  have w3 := c_ladd (ti.toInt64 * tc.toInt64) (sy.toInt64 * 8)
  have w4 := c_ladd (ti.toInt64 * tc.toInt64 + sy.toInt64 * 8) pl.toInt64
  rw [c_i2l, hwi] at w4
  have r1 := rng64 (ti.toInt64 * tc.toInt64)
  have r2 := rng64 (sy.toInt64 * 8)
  have r3 := rng64 (ti.toInt64 * tc.toInt64 + sy.toInt64 * 8)
  have r4 := rng64 wi
  have hW : wi.toInt = 8 * J + sy.toInt * 8 + pl.toInt := by omega
  have w5 := c_ladd off.toInt64 wi
  rw [c_i2l] at w5
  have w6 := c_l2i (off.toInt64 + wi)
  have r5 := rng64 (off.toInt64 + wi)
  have r6 := rng32 (off.toInt64 + wi).toInt32
  have r7 := rng32 got
  have r8 := rng32 off
  refine ⟨Int32.toInt_inj.mp (by omega), fun hb => ?_⟩
  rw [Int64.lt_iff_toInt_lt, eM] at hb
  have v1 := c_isub got off
  have r9 := rng32 (got - off)
  have hv : (got - off).toInt = 8 * J + sy.toInt * 8 + pl.toInt := by omega
  generalize got - off = v at *
  have v0 : 0 ≤ v.toInt := by omega
  have d1 := (c_irem v 8 8 rfl).1 v0
  have d2 := (c_irem v tc tc.toInt rfl).1 v0
  have ntc : tc ≠ -1 := fun q => by rw [q] at hT; have : (-1 : Int32).toInt = -1 := rfl; omega
  have d3 := (c_idiv v tc tc.toInt rfl ntc).1 v0
  have hq : v.toInt = (sy.toInt * 8 + pl.toInt) + tc.toInt * ti.toInt := by rw [Int.mul_comm tc.toInt, hK]; omega
  rw [hq, Int.add_mul_emod_self_left, Int.emod_eq_of_lt (by omega) (by omega)] at d2
  rw [hq, Int.add_mul_ediv_left _ _ (by omega), Int.ediv_eq_zero_of_lt (by omega) (by omega)] at d3
  have d4 := (c_idiv (v % tc) 8 8 rfl (by decide)).1 (by omega)
  refine ⟨?_, Int32.toInt_inj.mp (by omega), Int32.toInt_inj.mp (by omega), Int32.toInt_inj.mp (by omega)⟩
  rw [Int32.lt_iff_toInt_lt, e0]; omega

theorem ef_rm1 (m : MethodId) (x0 : Int32) (x1 : Int32) (x2 : Int32) (x3 : Int32) : entryFrame m #[(.int x0), (.int x1), (.int x2), (.int x3)] 4 = mkF m 0 #[.val (.int x0), .val (.int x1), .val (.int x2), .val (.int x3)] [] := by first | (simp [entryFrame, mkF, argsToLocals, Value.category]; done) | rfl
set_option maxRecDepth 65536 in
set_option maxHeartbeats 40000000 in
theorem rm1 (l : Launch) (Z : State) (a0 : Array Value) (hw : ∀ d ∈ tables_1, d.before a0 Z = true) (off tc sy co : Int32) (h0 : Heap)  :
    Met l Z (⟨"com/example/brisk_matrix/briskmatrix/statistics/PairCounts", "cell", "(IIII)I"⟩ : MethodName) prog_72_method_1_code 4 (some .int) ({ frames := 0, cells := 0, slots := 0, locals := 0 } : Room) #[(.int off), (.int tc), (.int sy), (.int co)] h0 (fun v h L => v = some (.int (off + co / 8 * tc + sy * 8 + co % 8)) ∧ L = [] ∧ h = h0) := by
  refine Met.intro (plainFor_of_name (by first | (simp [plainName, overriddenIn]; done) | decide +kernel)) ?_
  intro p e s m below meth c T0 hx hby hml hown hnm hret hlk hZ X0 e0
  refine Go.cast (ef_rm1 m off tc sy co) ?_
  refine Go.back (f' := (mkF m 1 #[.val (.int off), .val (.int tc), .val (.int sy), .val (.int co)] [(.int off)])) (fun _ k => XS.iloadN X0.here hx rfl (hb hby d1_0) rfl k) ?_
  refine Go.back (f' := (mkF m 2 #[.val (.int off), .val (.int tc), .val (.int sy), .val (.int co)] [(.int co), (.int off)])) (fun _ k => XS.iloadN X0.here hx rfl (hb hby d1_1) rfl k) ?_
  refine Go.back (f' := (mkF m 4 #[.val (.int off), .val (.int tc), .val (.int sy), .val (.int co)] [(.int (8 : Int32)), (.int co), (.int off)])) (fun _ k => XS.bipush X0.here hx rfl (hb hby d1_2) k) ?_
  refine Go.back (f' := (mkF m 5 #[.val (.int off), .val (.int tc), .val (.int sy), .val (.int co)] [(.int (co / (8 : Int32))), (.int off)])) (fun _ k => XS.idiv X0.here hx rfl (hb hby d1_4) rfl (by decide) k) ?_
  refine Go.back (f' := (mkF m 6 #[.val (.int off), .val (.int tc), .val (.int sy), .val (.int co)] [(.int tc), (.int (co / (8 : Int32))), (.int off)])) (fun _ k => XS.iloadN X0.here hx rfl (hb hby d1_5) rfl k) ?_
  refine Go.back (f' := (mkF m 7 #[.val (.int off), .val (.int tc), .val (.int sy), .val (.int co)] [(.int ((co / (8 : Int32)) * tc)), (.int off)])) (fun _ k => XS.imul X0.here hx rfl (hb hby d1_6) rfl k) ?_
  refine Go.back (f' := (mkF m 8 #[.val (.int off), .val (.int tc), .val (.int sy), .val (.int co)] [(.int (off + ((co / (8 : Int32)) * tc)))])) (fun _ k => XS.iadd X0.here hx rfl (hb hby d1_7) rfl k) ?_
  refine Go.back (f' := (mkF m 9 #[.val (.int off), .val (.int tc), .val (.int sy), .val (.int co)] [(.int sy), (.int (off + ((co / (8 : Int32)) * tc)))])) (fun _ k => XS.iloadN X0.here hx rfl (hb hby d1_8) rfl k) ?_
  refine Go.back (f' := (mkF m 11 #[.val (.int off), .val (.int tc), .val (.int sy), .val (.int co)] [(.int (8 : Int32)), (.int sy), (.int (off + ((co / (8 : Int32)) * tc)))])) (fun _ k => XS.bipush X0.here hx rfl (hb hby d1_9) k) ?_
  refine Go.back (f' := (mkF m 12 #[.val (.int off), .val (.int tc), .val (.int sy), .val (.int co)] [(.int (sy * (8 : Int32))), (.int (off + ((co / (8 : Int32)) * tc)))])) (fun _ k => XS.imul X0.here hx rfl (hb hby d1_11) rfl k) ?_
  refine Go.back (f' := (mkF m 13 #[.val (.int off), .val (.int tc), .val (.int sy), .val (.int co)] [(.int ((off + ((co / (8 : Int32)) * tc)) + (sy * (8 : Int32))))])) (fun _ k => XS.iadd X0.here hx rfl (hb hby d1_12) rfl k) ?_
  refine Go.back (f' := (mkF m 14 #[.val (.int off), .val (.int tc), .val (.int sy), .val (.int co)] [(.int co), (.int ((off + ((co / (8 : Int32)) * tc)) + (sy * (8 : Int32))))])) (fun _ k => XS.iloadN X0.here hx rfl (hb hby d1_13) rfl k) ?_
  refine Go.back (f' := (mkF m 16 #[.val (.int off), .val (.int tc), .val (.int sy), .val (.int co)] [(.int (8 : Int32)), (.int co), (.int ((off + ((co / (8 : Int32)) * tc)) + (sy * (8 : Int32))))])) (fun _ k => XS.bipush X0.here hx rfl (hb hby d1_14) k) ?_
  refine Go.back (f' := (mkF m 17 #[.val (.int off), .val (.int tc), .val (.int sy), .val (.int co)] [(.int (co % (8 : Int32))), (.int ((off + ((co / (8 : Int32)) * tc)) + (sy * (8 : Int32))))])) (fun _ k => iremM X0 hx rfl (hb hby d1_16) rfl (by decide) k) ?_
  refine Go.back (f' := (mkF m 18 #[.val (.int off), .val (.int tc), .val (.int sy), .val (.int co)] [(.int (((off + ((co / (8 : Int32)) * tc)) + (sy * (8 : Int32))) + (co % (8 : Int32))))])) (fun _ k => XS.iadd X0.here hx rfl (hb hby d1_17) rfl k) ?_
  exact Go.retI X0 hx hret hlk (hb hby d1_18) (by (try rw [e0]); exact ⟨rfl, rfl, rfl⟩) (Nat.zero_le _) (Nat.zero_le _)
theorem ef_rm0 (m : MethodId) (x0 : Int32) (x1 : Int32) (x2 : Int32) (x3 : Int32) (x4 : Int32) : entryFrame m #[(.int x0), (.int x1), (.int x2), (.int x3), (.int x4)] maxLocals = mkF m 0 #[.val (.int x0), .val (.int x1), .val (.int x2), .val (.int x3), .val (.int x4), .unset, .unset, .unset, .unset, .unset, .unset, .unset, .unset, .unset, .unset] [] := by first | (simp [entryFrame, mkF, argsToLocals, Value.category, maxLocals]; done) | rfl
set_option maxRecDepth 65536 in
set_option maxHeartbeats 40000000 in
theorem rm0 (l : Launch) (Z : State) (a0 : Array Value) (hw : ∀ d ∈ tables_1, d.before a0 Z = true) (off ms ss ts ps : Int32) (n0 : Nat) (h0 : Heap)  :
    Met l Z x code maxLocals ret room_1 #[(.int off), (.int ms), (.int ss), (.int ts), (.int ps)] h0 (fun v h L => v = some (.int 1) ∧ Fr n0 L) := by
  refine Met.intro (plainFor_of_name (by first | (simp [plainName, overriddenIn]; done) | decide +kernel)) ?_
  intro p e s m below meth c T0 hx hby hml hown hnm hret hlk hZ X0 e0
  refine Go.cast (ef_rm0 m off ms ss ts ps) ?_
  have hml : c.maxLocals = 15 := hml
  refine Go.back (f' := (mkF m 1 #[.val (.int off), .val (.int ms), .val (.int ss), .val (.int ts), .val (.int ps), .unset, .unset, .unset, .unset, .unset, .unset, .unset, .unset, .unset, .unset] [(.int ms)])) (fun _ k => XS.iloadN X0.here hx rfl (hb hby at_0) rfl k) ?_
  refine Go.back (f' := (mkF m 4 #[.val (.int off), .val (.int ms), .val (.int ss), .val (.int ts), .val (.int ps), .unset, .unset, .unset, .unset, .unset, .unset, .unset, .unset, .unset, .unset] [(.int (255 : Int32)), (.int ms)])) (fun _ k => XS.sipush X0.here hx rfl (hb hby at_1) k) ?_
  refine Go.back (f' := (mkF m 5 #[.val (.int off), .val (.int ms), .val (.int ss), .val (.int ts), .val (.int ps), .unset, .unset, .unset, .unset, .unset, .unset, .unset, .unset, .unset, .unset] [(.int (ms &&& (255 : Int32)))])) (fun _ k => XS.iand X0.here hx rfl (hb hby at_4) rfl k) ?_
  refine Go.back (f' := (mkF m 6 #[.val (.int off), .val (.int ms), .val (.int ss), .val (.int ts), .val (.int ps), .unset, .unset, .unset, .unset, .unset, .unset, .unset, .unset, .unset, .unset] [(.int (1 : Int32)), (.int (ms &&& (255 : Int32)))])) (fun _ k => XS.iconst X0.here hx rfl (hb hby at_5) k) ?_
  refine Go.back (f' := (mkF m 7 #[.val (.int off), .val (.int ms), .val (.int ss), .val (.int ts), .val (.int ps), .unset, .unset, .unset, .unset, .unset, .unset, .unset, .unset, .unset, .unset] [(.int ((ms &&& (255 : Int32)) + (1 : Int32)))])) (fun _ k => XS.iadd X0.here hx rfl (hb hby at_6) rfl k) ?_
  refine Go.back (f' := (mkF m 9 #[.val (.int off), .val (.int ms), .val (.int ss), .val (.int ts), .val (.int ps), .val (.int ((ms &&& (255 : Int32)) + (1 : Int32))), .unset, .unset, .unset, .unset, .unset, .unset, .unset, .unset, .unset] [])) (fun _ k => XS.istore X0.here hx rfl (hb hby at_7) rfl (l' := #[.val (.int off), .val (.int ms), .val (.int ss), .val (.int ts), .val (.int ps), .val (.int ((ms &&& (255 : Int32)) + (1 : Int32))), .unset, .unset, .unset, .unset, .unset, .unset, .unset, .unset, .unset]) rfl k) ?_
  have hm := own_m ms
  generalize em : ((ms &&& (255 : Int32)) + (1 : Int32)) = m'
  rw [em] at hm
  have m1 : 1 ≤ m'.toInt := by omega
  have m2 : m'.toInt ≤ 256 := by omega
  have nm := own_nz m1
  refine Go.back (f' := (mkF m 11 #[.val (.int off), .val (.int ms), .val (.int ss), .val (.int ts), .val (.int ps), .val (.int m'), .unset, .unset, .unset, .unset, .unset, .unset, .unset, .unset, .unset] [(.int (8 : Int32))])) (fun _ k => XS.bipush X0.here hx rfl (hb hby at_9) k) ?_
  refine Go.back (f' := (mkF m 13 #[.val (.int off), .val (.int ms), .val (.int ss), .val (.int ts), .val (.int ps), .val (.int m'), .unset, .unset, .unset, .unset, .unset, .unset, .unset, .unset, .unset] [(.int m'), (.int (8 : Int32))])) (fun _ k => XS.iload X0.here hx rfl (hb hby at_11) rfl k) ?_
  refine Go.back (f' := (mkF m 14 #[.val (.int off), .val (.int ms), .val (.int ss), .val (.int ts), .val (.int ps), .val (.int m'), .unset, .unset, .unset, .unset, .unset, .unset, .unset, .unset, .unset] [(.int ((8 : Int32) * m'))])) (fun _ k => XS.imul X0.here hx rfl (hb hby at_13) rfl k) ?_
  refine Go.back (f' := (mkF m 16 #[.val (.int off), .val (.int ms), .val (.int ss), .val (.int ts), .val (.int ps), .val (.int m'), .val (.int ((8 : Int32) * m')), .unset, .unset, .unset, .unset, .unset, .unset, .unset, .unset] [])) (fun _ k => XS.istore X0.here hx rfl (hb hby at_14) rfl (l' := #[.val (.int off), .val (.int ms), .val (.int ss), .val (.int ts), .val (.int ps), .val (.int m'), .val (.int ((8 : Int32) * m')), .unset, .unset, .unset, .unset, .unset, .unset, .unset, .unset]) rfl k) ?_
  generalize etc : ((8 : Int32) * m') = tc
  have htc := own_tc m' m1 m2
  rw [etc] at htc
  have ntc := own_nz (m := tc) (by omega)
  refine Go.back (f' := (mkF m 17 #[.val (.int off), .val (.int ms), .val (.int ss), .val (.int ts), .val (.int ps), .val (.int m'), .val (.int tc), .unset, .unset, .unset, .unset, .unset, .unset, .unset, .unset] [(.int ss)])) (fun _ k => XS.iloadN X0.here hx rfl (hb hby at_16) rfl k) ?_
  refine Go.back (f' := (mkF m 19 #[.val (.int off), .val (.int ms), .val (.int ss), .val (.int ts), .val (.int ps), .val (.int m'), .val (.int tc), .unset, .unset, .unset, .unset, .unset, .unset, .unset, .unset] [(.int (2147483647 : Int32)), (.int ss)])) (fun _ k => X0.ldcInt hx hown (mvT hZ (hw _ (List.mem_of_getElem? (i := 0) rfl))) (g := (mkF m 17 #[.val (.int off), .val (.int ms), .val (.int ss), .val (.int ts), .val (.int ps), .val (.int m'), .val (.int tc), .unset, .unset, .unset, .unset, .unset, .unset, .unset, .unset] [(.int ss)])) rfl (hb hby at_17) _ k) ?_
  refine Go.back (f' := (mkF m 20 #[.val (.int off), .val (.int ms), .val (.int ss), .val (.int ts), .val (.int ps), .val (.int m'), .val (.int tc), .unset, .unset, .unset, .unset, .unset, .unset, .unset, .unset] [(.int (ss &&& (2147483647 : Int32)))])) (fun _ k => XS.iand X0.here hx rfl (hb hby at_19) rfl k) ?_
  refine Go.back (f' := (mkF m 22 #[.val (.int off), .val (.int ms), .val (.int ss), .val (.int ts), .val (.int ps), .val (.int m'), .val (.int tc), .unset, .unset, .unset, .unset, .unset, .unset, .unset, .unset] [(.int m'), (.int (ss &&& (2147483647 : Int32)))])) (fun _ k => XS.iload X0.here hx rfl (hb hby at_20) rfl k) ?_
  refine Go.back (f' := (mkF m 23 #[.val (.int off), .val (.int ms), .val (.int ss), .val (.int ts), .val (.int ps), .val (.int m'), .val (.int tc), .unset, .unset, .unset, .unset, .unset, .unset, .unset, .unset] [(.int ((ss &&& (2147483647 : Int32)) % m'))])) (fun _ k => iremM X0 hx rfl (hb hby at_22) rfl nm k) ?_
  refine Go.back (f' := (mkF m 25 #[.val (.int off), .val (.int ms), .val (.int ss), .val (.int ts), .val (.int ps), .val (.int m'), .val (.int tc), .val (.int ((ss &&& (2147483647 : Int32)) % m')), .unset, .unset, .unset, .unset, .unset, .unset, .unset] [])) (fun _ k => XS.istore X0.here hx rfl (hb hby at_23) rfl (l' := #[.val (.int off), .val (.int ms), .val (.int ss), .val (.int ts), .val (.int ps), .val (.int m'), .val (.int tc), .val (.int ((ss &&& (2147483647 : Int32)) % m')), .unset, .unset, .unset, .unset, .unset, .unset, .unset]) rfl k) ?_
  have hk : (ss &&& (2147483647 : Int32)).toInt = ss.toInt % (2 ^ 31 : Nat) := c_mask ss 2147483647 31 (by decide) (by decide)
  have hs := (c_iremV (ss &&& (2147483647 : Int32)) m').1 (by omega) (by omega)
  generalize esy : ((ss &&& (2147483647 : Int32)) % m') = sy
  rw [esy] at hs
  refine Go.back (f' := (mkF m 26 #[.val (.int off), .val (.int ms), .val (.int ss), .val (.int ts), .val (.int ps), .val (.int m'), .val (.int tc), .val (.int sy), .unset, .unset, .unset, .unset, .unset, .unset, .unset] [(.int ts)])) (fun _ k => XS.iloadN X0.here hx rfl (hb hby at_25) rfl k) ?_
  refine Go.back (f' := (mkF m 28 #[.val (.int off), .val (.int ms), .val (.int ss), .val (.int ts), .val (.int ps), .val (.int m'), .val (.int tc), .val (.int sy), .unset, .unset, .unset, .unset, .unset, .unset, .unset] [(.int (268435455 : Int32)), (.int ts)])) (fun _ k => X0.ldcInt hx hown (mvT hZ (hw _ (List.mem_of_getElem? (i := 1) rfl))) (g := (mkF m 26 #[.val (.int off), .val (.int ms), .val (.int ss), .val (.int ts), .val (.int ps), .val (.int m'), .val (.int tc), .val (.int sy), .unset, .unset, .unset, .unset, .unset, .unset, .unset] [(.int ts)])) rfl (hb hby at_26) _ k) ?_
  refine Go.back (f' := (mkF m 29 #[.val (.int off), .val (.int ms), .val (.int ss), .val (.int ts), .val (.int ps), .val (.int m'), .val (.int tc), .val (.int sy), .unset, .unset, .unset, .unset, .unset, .unset, .unset] [(.int (ts &&& (268435455 : Int32)))])) (fun _ k => XS.iand X0.here hx rfl (hb hby at_28) rfl k) ?_
  refine Go.back (f' := (mkF m 31 #[.val (.int off), .val (.int ms), .val (.int ss), .val (.int ts), .val (.int ps), .val (.int m'), .val (.int tc), .val (.int sy), .val (.int (ts &&& (268435455 : Int32))), .unset, .unset, .unset, .unset, .unset, .unset] [])) (fun _ k => XS.istore X0.here hx rfl (hb hby at_29) rfl (l' := #[.val (.int off), .val (.int ms), .val (.int ss), .val (.int ts), .val (.int ps), .val (.int m'), .val (.int tc), .val (.int sy), .val (.int (ts &&& (268435455 : Int32))), .unset, .unset, .unset, .unset, .unset, .unset]) rfl k) ?_
  have ht : (ts &&& (268435455 : Int32)).toInt = ts.toInt % (2 ^ 28 : Nat) := c_mask ts 268435455 28 (by decide) (by decide)
  generalize eti : (ts &&& (268435455 : Int32)) = ti
  rw [eti] at ht
  refine Go.back (f' := (mkF m 33 #[.val (.int off), .val (.int ms), .val (.int ss), .val (.int ts), .val (.int ps), .val (.int m'), .val (.int tc), .val (.int sy), .val (.int ti), .unset, .unset, .unset, .unset, .unset, .unset] [(.int ps)])) (fun _ k => XS.iload X0.here hx rfl (hb hby at_31) rfl k) ?_
  refine Go.back (f' := (mkF m 35 #[.val (.int off), .val (.int ms), .val (.int ss), .val (.int ts), .val (.int ps), .val (.int m'), .val (.int tc), .val (.int sy), .val (.int ti), .unset, .unset, .unset, .unset, .unset, .unset] [(.int (7 : Int32)), (.int ps)])) (fun _ k => XS.bipush X0.here hx rfl (hb hby at_33) k) ?_
  refine Go.back (f' := (mkF m 36 #[.val (.int off), .val (.int ms), .val (.int ss), .val (.int ts), .val (.int ps), .val (.int m'), .val (.int tc), .val (.int sy), .val (.int ti), .unset, .unset, .unset, .unset, .unset, .unset] [(.int (ps &&& (7 : Int32)))])) (fun _ k => XS.iand X0.here hx rfl (hb hby at_35) rfl k) ?_
  refine Go.back (f' := (mkF m 38 #[.val (.int off), .val (.int ms), .val (.int ss), .val (.int ts), .val (.int ps), .val (.int m'), .val (.int tc), .val (.int sy), .val (.int ti), .val (.int (ps &&& (7 : Int32))), .unset, .unset, .unset, .unset, .unset] [])) (fun _ k => XS.istore X0.here hx rfl (hb hby at_36) rfl (l' := #[.val (.int off), .val (.int ms), .val (.int ss), .val (.int ts), .val (.int ps), .val (.int m'), .val (.int tc), .val (.int sy), .val (.int ti), .val (.int (ps &&& (7 : Int32))), .unset, .unset, .unset, .unset, .unset]) rfl k) ?_
  have hp : (ps &&& (7 : Int32)).toInt = ps.toInt % (2 ^ 3 : Nat) := c_mask ps 7 3 (by decide) (by decide)
  generalize epl : (ps &&& (7 : Int32)) = pl
  rw [epl] at hp
  refine Go.back (f' := (mkF m 40 #[.val (.int off), .val (.int ms), .val (.int ss), .val (.int ts), .val (.int ps), .val (.int m'), .val (.int tc), .val (.int sy), .val (.int ti), .val (.int pl), .unset, .unset, .unset, .unset, .unset] [(.int ti)])) (fun _ k => XS.iload X0.here hx rfl (hb hby at_38) rfl k) ?_
  refine Go.back (f' := (mkF m 42 #[.val (.int off), .val (.int ms), .val (.int ss), .val (.int ts), .val (.int ps), .val (.int m'), .val (.int tc), .val (.int sy), .val (.int ti), .val (.int pl), .unset, .unset, .unset, .unset, .unset] [(.int (8 : Int32)), (.int ti)])) (fun _ k => XS.bipush X0.here hx rfl (hb hby at_40) k) ?_
  refine Go.back (f' := (mkF m 43 #[.val (.int off), .val (.int ms), .val (.int ss), .val (.int ts), .val (.int ps), .val (.int m'), .val (.int tc), .val (.int sy), .val (.int ti), .val (.int pl), .unset, .unset, .unset, .unset, .unset] [(.int (ti * (8 : Int32)))])) (fun _ k => XS.imul X0.here hx rfl (hb hby at_42) rfl k) ?_
  refine Go.back (f' := (mkF m 45 #[.val (.int off), .val (.int ms), .val (.int ss), .val (.int ts), .val (.int ps), .val (.int m'), .val (.int tc), .val (.int sy), .val (.int ti), .val (.int pl), .unset, .unset, .unset, .unset, .unset] [(.int pl), (.int (ti * (8 : Int32)))])) (fun _ k => XS.iload X0.here hx rfl (hb hby at_43) rfl k) ?_
  refine Go.back (f' := (mkF m 46 #[.val (.int off), .val (.int ms), .val (.int ss), .val (.int ts), .val (.int ps), .val (.int m'), .val (.int tc), .val (.int sy), .val (.int ti), .val (.int pl), .unset, .unset, .unset, .unset, .unset] [(.int ((ti * (8 : Int32)) + pl))])) (fun _ k => XS.iadd X0.here hx rfl (hb hby at_45) rfl k) ?_
  refine Go.back (f' := (mkF m 48 #[.val (.int off), .val (.int ms), .val (.int ss), .val (.int ts), .val (.int ps), .val (.int m'), .val (.int tc), .val (.int sy), .val (.int ti), .val (.int pl), .val (.int ((ti * (8 : Int32)) + pl)), .unset, .unset, .unset, .unset] [])) (fun _ k => XS.istore X0.here hx rfl (hb hby at_46) rfl (l' := #[.val (.int off), .val (.int ms), .val (.int ss), .val (.int ts), .val (.int ps), .val (.int m'), .val (.int tc), .val (.int sy), .val (.int ti), .val (.int pl), .val (.int ((ti * (8 : Int32)) + pl)), .unset, .unset, .unset, .unset]) rfl k) ?_
  generalize eco : ((ti * (8 : Int32)) + pl) = co
  refine Go.back (f' := (mkF m 49 #[.val (.int off), .val (.int ms), .val (.int ss), .val (.int ts), .val (.int ps), .val (.int m'), .val (.int tc), .val (.int sy), .val (.int ti), .val (.int pl), .val (.int co), .unset, .unset, .unset, .unset] [(.int off)])) (fun _ k => XS.iloadN X0.here hx rfl (hb hby at_48) rfl k) ?_
  refine Go.back (f' := (mkF m 51 #[.val (.int off), .val (.int ms), .val (.int ss), .val (.int ts), .val (.int ps), .val (.int m'), .val (.int tc), .val (.int sy), .val (.int ti), .val (.int pl), .val (.int co), .unset, .unset, .unset, .unset] [(.int tc), (.int off)])) (fun _ k => XS.iload X0.here hx rfl (hb hby at_49) rfl k) ?_
  refine Go.back (f' := (mkF m 53 #[.val (.int off), .val (.int ms), .val (.int ss), .val (.int ts), .val (.int ps), .val (.int m'), .val (.int tc), .val (.int sy), .val (.int ti), .val (.int pl), .val (.int co), .unset, .unset, .unset, .unset] [(.int sy), (.int tc), (.int off)])) (fun _ k => XS.iload X0.here hx rfl (hb hby at_51) rfl k) ?_
  refine Go.back (f' := (mkF m 55 #[.val (.int off), .val (.int ms), .val (.int ss), .val (.int ts), .val (.int ps), .val (.int m'), .val (.int tc), .val (.int sy), .val (.int ti), .val (.int pl), .val (.int co), .unset, .unset, .unset, .unset] [(.int co), (.int sy), (.int tc), (.int off)])) (fun _ k => XS.iload X0.here hx rfl (hb hby at_53) rfl k) ?_
  refine Go.callS X0 hx hZ hown (hw _ (List.mem_of_getElem? (i := 2) rfl)) (hw _ (List.mem_of_getElem? (i := 3) rfl)) (hw _ (List.mem_of_getElem? (i := 4) rfl)) (hw _ (List.mem_of_getElem? (i := 5) rfl)) (by decide) e0 (argsL := [(.int off), (.int tc), (.int sy), (.int co)]) (rest := []) (rm1 l Z a0 hw off tc sy co h0) (lenOf pd_0 rfl) rfl (by rw [hml]; rfl) (W := 0) (Nat.le_of_eq rfl) (hb hby at_55) (by decide) (by decide) (by decide) (by decide) ?_
  intro v1 T1 L1 X1 hQ1
  obtain ⟨rfl, rfl, hh1⟩ := hQ1
  generalize eg : (off + co / 8 * tc + sy * 8 + co % 8) = got
  show GoG _ _ _ _ _ (mkF m 58 #[.val (.int off), .val (.int ms), .val (.int ss), .val (.int ts), .val (.int ps), .val (.int m'), .val (.int tc), .val (.int sy), .val (.int ti), .val (.int pl), .val (.int co), .unset, .unset, .unset, .unset] [(.int got)])
  refine Go.back (f' := (mkF m 60 #[.val (.int off), .val (.int ms), .val (.int ss), .val (.int ts), .val (.int ps), .val (.int m'), .val (.int tc), .val (.int sy), .val (.int ti), .val (.int pl), .val (.int co), .val (.int got), .unset, .unset, .unset] [])) (fun _ k => XS.istore X1.here hx rfl (hb hby at_58) rfl (l' := #[.val (.int off), .val (.int ms), .val (.int ss), .val (.int ts), .val (.int ps), .val (.int m'), .val (.int tc), .val (.int sy), .val (.int ti), .val (.int pl), .val (.int co), .val (.int got), .unset, .unset, .unset]) rfl k) ?_
  refine Go.back (f' := (mkF m 62 #[.val (.int off), .val (.int ms), .val (.int ss), .val (.int ts), .val (.int ps), .val (.int m'), .val (.int tc), .val (.int sy), .val (.int ti), .val (.int pl), .val (.int co), .val (.int got), .unset, .unset, .unset] [(.int ti)])) (fun _ k => XS.iload X1.here hx rfl (hb hby at_60) rfl k) ?_
  refine Go.back (f' := (mkF m 63 #[.val (.int off), .val (.int ms), .val (.int ss), .val (.int ts), .val (.int ps), .val (.int m'), .val (.int tc), .val (.int sy), .val (.int ti), .val (.int pl), .val (.int co), .val (.int got), .unset, .unset, .unset] [(.long (ti.toInt64))])) (fun _ k => XS.i2l X1.here hx rfl (hb hby at_62) rfl k) ?_
  refine Go.back (f' := (mkF m 65 #[.val (.int off), .val (.int ms), .val (.int ss), .val (.int ts), .val (.int ps), .val (.int m'), .val (.int tc), .val (.int sy), .val (.int ti), .val (.int pl), .val (.int co), .val (.int got), .unset, .unset, .unset] [(.int tc), (.long (ti.toInt64))])) (fun _ k => XS.iload X1.here hx rfl (hb hby at_63) rfl k) ?_
  refine Go.back (f' := (mkF m 66 #[.val (.int off), .val (.int ms), .val (.int ss), .val (.int ts), .val (.int ps), .val (.int m'), .val (.int tc), .val (.int sy), .val (.int ti), .val (.int pl), .val (.int co), .val (.int got), .unset, .unset, .unset] [(.long (tc.toInt64)), (.long (ti.toInt64))])) (fun _ k => XS.i2l X1.here hx rfl (hb hby at_65) rfl k) ?_
  refine Go.back (f' := (mkF m 67 #[.val (.int off), .val (.int ms), .val (.int ss), .val (.int ts), .val (.int ps), .val (.int m'), .val (.int tc), .val (.int sy), .val (.int ti), .val (.int pl), .val (.int co), .val (.int got), .unset, .unset, .unset] [(.long ((ti.toInt64) * (tc.toInt64)))])) (fun _ k => XS.lmul X1.here hx rfl (hb hby at_66) rfl k) ?_
  refine Go.back (f' := (mkF m 69 #[.val (.int off), .val (.int ms), .val (.int ss), .val (.int ts), .val (.int ps), .val (.int m'), .val (.int tc), .val (.int sy), .val (.int ti), .val (.int pl), .val (.int co), .val (.int got), .unset, .unset, .unset] [(.int sy), (.long ((ti.toInt64) * (tc.toInt64)))])) (fun _ k => XS.iload X1.here hx rfl (hb hby at_67) rfl k) ?_
  refine Go.back (f' := (mkF m 70 #[.val (.int off), .val (.int ms), .val (.int ss), .val (.int ts), .val (.int ps), .val (.int m'), .val (.int tc), .val (.int sy), .val (.int ti), .val (.int pl), .val (.int co), .val (.int got), .unset, .unset, .unset] [(.long (sy.toInt64)), (.long ((ti.toInt64) * (tc.toInt64)))])) (fun _ k => XS.i2l X1.here hx rfl (hb hby at_69) rfl k) ?_
  refine Go.back (f' := (mkF m 73 #[.val (.int off), .val (.int ms), .val (.int ss), .val (.int ts), .val (.int ps), .val (.int m'), .val (.int tc), .val (.int sy), .val (.int ti), .val (.int pl), .val (.int co), .val (.int got), .unset, .unset, .unset] [(.long (8 : Int64)), (.long (sy.toInt64)), (.long ((ti.toInt64) * (tc.toInt64)))])) (fun _ k => X1.ldc2Long hx hown (mvT hZ (hw _ (List.mem_of_getElem? (i := 6) rfl))) (g := (mkF m 70 #[.val (.int off), .val (.int ms), .val (.int ss), .val (.int ts), .val (.int ps), .val (.int m'), .val (.int tc), .val (.int sy), .val (.int ti), .val (.int pl), .val (.int co), .val (.int got), .unset, .unset, .unset] [(.long (sy.toInt64)), (.long ((ti.toInt64) * (tc.toInt64)))])) rfl (hb hby at_70) _ k) ?_
  refine Go.back (f' := (mkF m 74 #[.val (.int off), .val (.int ms), .val (.int ss), .val (.int ts), .val (.int ps), .val (.int m'), .val (.int tc), .val (.int sy), .val (.int ti), .val (.int pl), .val (.int co), .val (.int got), .unset, .unset, .unset] [(.long ((sy.toInt64) * (8 : Int64))), (.long ((ti.toInt64) * (tc.toInt64)))])) (fun _ k => XS.lmul X1.here hx rfl (hb hby at_73) rfl k) ?_
  refine Go.back (f' := (mkF m 75 #[.val (.int off), .val (.int ms), .val (.int ss), .val (.int ts), .val (.int ps), .val (.int m'), .val (.int tc), .val (.int sy), .val (.int ti), .val (.int pl), .val (.int co), .val (.int got), .unset, .unset, .unset] [(.long (((ti.toInt64) * (tc.toInt64)) + ((sy.toInt64) * (8 : Int64))))])) (fun _ k => XS.ladd X1.here hx rfl (hb hby at_74) rfl k) ?_
  refine Go.back (f' := (mkF m 77 #[.val (.int off), .val (.int ms), .val (.int ss), .val (.int ts), .val (.int ps), .val (.int m'), .val (.int tc), .val (.int sy), .val (.int ti), .val (.int pl), .val (.int co), .val (.int got), .unset, .unset, .unset] [(.int pl), (.long (((ti.toInt64) * (tc.toInt64)) + ((sy.toInt64) * (8 : Int64))))])) (fun _ k => XS.iload X1.here hx rfl (hb hby at_75) rfl k) ?_
  refine Go.back (f' := (mkF m 78 #[.val (.int off), .val (.int ms), .val (.int ss), .val (.int ts), .val (.int ps), .val (.int m'), .val (.int tc), .val (.int sy), .val (.int ti), .val (.int pl), .val (.int co), .val (.int got), .unset, .unset, .unset] [(.long (pl.toInt64)), (.long (((ti.toInt64) * (tc.toInt64)) + ((sy.toInt64) * (8 : Int64))))])) (fun _ k => XS.i2l X1.here hx rfl (hb hby at_77) rfl k) ?_
  refine Go.back (f' := (mkF m 79 #[.val (.int off), .val (.int ms), .val (.int ss), .val (.int ts), .val (.int ps), .val (.int m'), .val (.int tc), .val (.int sy), .val (.int ti), .val (.int pl), .val (.int co), .val (.int got), .unset, .unset, .unset] [(.long ((((ti.toInt64) * (tc.toInt64)) + ((sy.toInt64) * (8 : Int64))) + (pl.toInt64)))])) (fun _ k => XS.ladd X1.here hx rfl (hb hby at_78) rfl k) ?_
  refine Go.back (f' := (mkF m 81 #[.val (.int off), .val (.int ms), .val (.int ss), .val (.int ts), .val (.int ps), .val (.int m'), .val (.int tc), .val (.int sy), .val (.int ti), .val (.int pl), .val (.int co), .val (.int got), .val (.long ((((ti.toInt64) * (tc.toInt64)) + ((sy.toInt64) * (8 : Int64))) + (pl.toInt64))), .second, .unset] [])) (fun _ k => XS.lstore X1.here hx rfl (hb hby at_79) rfl (l' := #[.val (.int off), .val (.int ms), .val (.int ss), .val (.int ts), .val (.int ps), .val (.int m'), .val (.int tc), .val (.int sy), .val (.int ti), .val (.int pl), .val (.int co), .val (.int got), .val (.long ((((ti.toInt64) * (tc.toInt64)) + ((sy.toInt64) * (8 : Int64))) + (pl.toInt64))), .second, .unset]) rfl k) ?_
  generalize ewi : (((ti.toInt64) * (tc.toInt64)) + ((sy.toInt64) * (8 : Int64)) + (pl.toInt64)) = wi
  obtain ⟨k1, k2⟩ := own_law off m' tc sy ti pl co got wi m1 m2 etc (by omega) (by omega) (by omega) (by omega) (by omega) (by omega) eco eg ewi
  refine Go.back (f' := (mkF m 83 #[.val (.int off), .val (.int ms), .val (.int ss), .val (.int ts), .val (.int ps), .val (.int m'), .val (.int tc), .val (.int sy), .val (.int ti), .val (.int pl), .val (.int co), .val (.int got), .val (.long wi), .second, .unset] [(.int got)])) (fun _ k => XS.iload X1.here hx rfl (hb hby at_81) rfl k) ?_
  refine Go.back (f' := (mkF m 84 #[.val (.int off), .val (.int ms), .val (.int ss), .val (.int ts), .val (.int ps), .val (.int m'), .val (.int tc), .val (.int sy), .val (.int ti), .val (.int pl), .val (.int co), .val (.int got), .val (.long wi), .second, .unset] [(.int off), (.int got)])) (fun _ k => XS.iloadN X1.here hx rfl (hb hby at_83) rfl k) ?_
  refine Go.back (f' := (mkF m 85 #[.val (.int off), .val (.int ms), .val (.int ss), .val (.int ts), .val (.int ps), .val (.int m'), .val (.int tc), .val (.int sy), .val (.int ti), .val (.int pl), .val (.int co), .val (.int got), .val (.long wi), .second, .unset] [(.long (off.toInt64)), (.int got)])) (fun _ k => XS.i2l X1.here hx rfl (hb hby at_84) rfl k) ?_
  refine Go.back (f' := (mkF m 87 #[.val (.int off), .val (.int ms), .val (.int ss), .val (.int ts), .val (.int ps), .val (.int m'), .val (.int tc), .val (.int sy), .val (.int ti), .val (.int pl), .val (.int co), .val (.int got), .val (.long wi), .second, .unset] [(.long wi), (.long (off.toInt64)), (.int got)])) (fun _ k => XS.lload X1.here hx rfl (hb hby at_85) rfl k) ?_
  refine Go.back (f' := (mkF m 88 #[.val (.int off), .val (.int ms), .val (.int ss), .val (.int ts), .val (.int ps), .val (.int m'), .val (.int tc), .val (.int sy), .val (.int ti), .val (.int pl), .val (.int co), .val (.int got), .val (.long wi), .second, .unset] [(.long ((off.toInt64) + wi)), (.int got)])) (fun _ k => XS.ladd X1.here hx rfl (hb hby at_87) rfl k) ?_
  refine Go.back (f' := (mkF m 89 #[.val (.int off), .val (.int ms), .val (.int ss), .val (.int ts), .val (.int ps), .val (.int m'), .val (.int tc), .val (.int sy), .val (.int ti), .val (.int pl), .val (.int co), .val (.int got), .val (.long wi), .second, .unset] [(.int (((off.toInt64) + wi).toInt32)), (.int got)])) (fun _ k => XS.l2i X1.here hx rfl (hb hby at_88) rfl k) ?_
  refine Go.back (f' := (mkF m 94 #[.val (.int off), .val (.int ms), .val (.int ss), .val (.int ts), .val (.int ps), .val (.int m'), .val (.int tc), .val (.int sy), .val (.int ti), .val (.int pl), .val (.int co), .val (.int got), .val (.long wi), .second, .unset] [])) (fun _ k => XS.icmpYes X1.here hx rfl (pc0 := 89) (pc' := 94) rfl (hb hby at_89) rfl (teq k1).1 (by decide) (by decide) k) ?_
  refine Go.back (f' := (mkF m 96 #[.val (.int off), .val (.int ms), .val (.int ss), .val (.int ts), .val (.int ps), .val (.int m'), .val (.int tc), .val (.int sy), .val (.int ti), .val (.int pl), .val (.int co), .val (.int got), .val (.long wi), .second, .unset] [(.long wi)])) (fun _ k => XS.lload X1.here hx rfl (hb hby at_94) rfl k) ?_
  refine Go.back (f' := (mkF m 99 #[.val (.int off), .val (.int ms), .val (.int ss), .val (.int ts), .val (.int ps), .val (.int m'), .val (.int tc), .val (.int sy), .val (.int ti), .val (.int pl), .val (.int co), .val (.int got), .val (.long wi), .second, .unset] [(.long (2147483647 : Int64)), (.long wi)])) (fun _ k => X1.ldc2Long hx hown (mvT hZ (hw _ (List.mem_of_getElem? (i := 7) rfl))) (g := (mkF m 96 #[.val (.int off), .val (.int ms), .val (.int ss), .val (.int ts), .val (.int ps), .val (.int m'), .val (.int tc), .val (.int sy), .val (.int ti), .val (.int pl), .val (.int co), .val (.int got), .val (.long wi), .second, .unset] [(.long wi)])) rfl (hb hby at_96) _ k) ?_
  refine Go.back (f' := (mkF m 100 #[.val (.int off), .val (.int ms), .val (.int ss), .val (.int ts), .val (.int ps), .val (.int m'), .val (.int tc), .val (.int sy), .val (.int ti), .val (.int pl), .val (.int co), .val (.int got), .val (.long wi), .second, .unset] [(.int (lcmpW wi (2147483647 : Int64)))])) (fun _ k => XS.lcmp X1.here hx rfl (hb hby at_99) rfl k) ?_
  by_cases hbg : (2147483647 : Int64) < wi
  · refine Go.back (f' := (mkF m 103 #[.val (.int off), .val (.int ms), .val (.int ss), .val (.int ts), .val (.int ps), .val (.int m'), .val (.int tc), .val (.int sy), .val (.int ti), .val (.int pl), .val (.int co), .val (.int got), .val (.long wi), .second, .unset] [])) (fun _ k => XS.ifNo X1.here hx rfl (hb hby at_100) rfl (l_le_f hbg) k) ?_
    refine Go.back (f' := (mkF m 104 #[.val (.int off), .val (.int ms), .val (.int ss), .val (.int ts), .val (.int ps), .val (.int m'), .val (.int tc), .val (.int sy), .val (.int ti), .val (.int pl), .val (.int co), .val (.int got), .val (.long wi), .second, .unset] [(.int (1 : Int32))])) (fun _ k => XS.iconst X1.here hx rfl (hb hby at_103) k) ?_
    exact Go.retN X1 hx (t := .boolean) hret (by simp) (w := (1 : Int32)) rfl hlk (hb hby at_104) (by (try rw [hh1]); exact ⟨rfl, Fr.nil _⟩) (Nat.zero_le _) (Nat.zero_le _)
  · refine Go.back (f' := (mkF m 105 #[.val (.int off), .val (.int ms), .val (.int ss), .val (.int ts), .val (.int ps), .val (.int m'), .val (.int tc), .val (.int sy), .val (.int ti), .val (.int pl), .val (.int co), .val (.int got), .val (.long wi), .second, .unset] [])) (fun _ k => XS.ifYes X1.here hx rfl (pc0 := 100) (pc' := 105) rfl (hb hby at_100) rfl (l_le_t hbg) (by decide) (by decide) k) ?_
    obtain ⟨q1, q2, q3, q4⟩ := k2 hbg
    refine Go.back (f' := (mkF m 107 #[.val (.int off), .val (.int ms), .val (.int ss), .val (.int ts), .val (.int ps), .val (.int m'), .val (.int tc), .val (.int sy), .val (.int ti), .val (.int pl), .val (.int co), .val (.int got), .val (.long wi), .second, .unset] [(.int got)])) (fun _ k => XS.iload X1.here hx rfl (hb hby at_105) rfl k) ?_
    refine Go.back (f' := (mkF m 108 #[.val (.int off), .val (.int ms), .val (.int ss), .val (.int ts), .val (.int ps), .val (.int m'), .val (.int tc), .val (.int sy), .val (.int ti), .val (.int pl), .val (.int co), .val (.int got), .val (.long wi), .second, .unset] [(.int off), (.int got)])) (fun _ k => XS.iloadN X1.here hx rfl (hb hby at_107) rfl k) ?_
    refine Go.back (f' := (mkF m 109 #[.val (.int off), .val (.int ms), .val (.int ss), .val (.int ts), .val (.int ps), .val (.int m'), .val (.int tc), .val (.int sy), .val (.int ti), .val (.int pl), .val (.int co), .val (.int got), .val (.long wi), .second, .unset] [(.int (got - off))])) (fun _ k => XS.isub X1.here hx rfl (hb hby at_108) rfl k) ?_
    refine Go.back (f' := (mkF m 111 #[.val (.int off), .val (.int ms), .val (.int ss), .val (.int ts), .val (.int ps), .val (.int m'), .val (.int tc), .val (.int sy), .val (.int ti), .val (.int pl), .val (.int co), .val (.int got), .val (.long wi), .second, .val (.int (got - off))] [])) (fun _ k => XS.istore X1.here hx rfl (hb hby at_109) rfl (l' := #[.val (.int off), .val (.int ms), .val (.int ss), .val (.int ts), .val (.int ps), .val (.int m'), .val (.int tc), .val (.int sy), .val (.int ti), .val (.int pl), .val (.int co), .val (.int got), .val (.long wi), .second, .val (.int (got - off))]) rfl k) ?_
    refine Go.back (f' := (mkF m 113 #[.val (.int off), .val (.int ms), .val (.int ss), .val (.int ts), .val (.int ps), .val (.int m'), .val (.int tc), .val (.int sy), .val (.int ti), .val (.int pl), .val (.int co), .val (.int got), .val (.long wi), .second, .val (.int (got - off))] [(.int (got - off))])) (fun _ k => XS.iload X1.here hx rfl (hb hby at_111) rfl k) ?_
    refine Go.back (f' := (mkF m 116 #[.val (.int off), .val (.int ms), .val (.int ss), .val (.int ts), .val (.int ps), .val (.int m'), .val (.int tc), .val (.int sy), .val (.int ti), .val (.int pl), .val (.int co), .val (.int got), .val (.long wi), .second, .val (.int (got - off))] [])) (fun _ k => XS.ifNo X1.here hx rfl (hb hby at_113) rfl ((if0 _ _).trans (flt q1).1) k) ?_
    refine Go.back (f' := (mkF m 118 #[.val (.int off), .val (.int ms), .val (.int ss), .val (.int ts), .val (.int ps), .val (.int m'), .val (.int tc), .val (.int sy), .val (.int ti), .val (.int pl), .val (.int co), .val (.int got), .val (.long wi), .second, .val (.int (got - off))] [(.int (got - off))])) (fun _ k => XS.iload X1.here hx rfl (hb hby at_116) rfl k) ?_
    refine Go.back (f' := (mkF m 120 #[.val (.int off), .val (.int ms), .val (.int ss), .val (.int ts), .val (.int ps), .val (.int m'), .val (.int tc), .val (.int sy), .val (.int ti), .val (.int pl), .val (.int co), .val (.int got), .val (.long wi), .second, .val (.int (got - off))] [(.int (8 : Int32)), (.int (got - off))])) (fun _ k => XS.bipush X1.here hx rfl (hb hby at_118) k) ?_
    refine Go.back (f' := (mkF m 121 #[.val (.int off), .val (.int ms), .val (.int ss), .val (.int ts), .val (.int ps), .val (.int m'), .val (.int tc), .val (.int sy), .val (.int ti), .val (.int pl), .val (.int co), .val (.int got), .val (.long wi), .second, .val (.int (got - off))] [(.int ((got - off) % (8 : Int32)))])) (fun _ k => iremM X1 hx rfl (hb hby at_120) rfl (by decide) k) ?_
    refine Go.back (f' := (mkF m 123 #[.val (.int off), .val (.int ms), .val (.int ss), .val (.int ts), .val (.int ps), .val (.int m'), .val (.int tc), .val (.int sy), .val (.int ti), .val (.int pl), .val (.int co), .val (.int got), .val (.long wi), .second, .val (.int (got - off))] [(.int pl), (.int ((got - off) % (8 : Int32)))])) (fun _ k => XS.iload X1.here hx rfl (hb hby at_121) rfl k) ?_
    refine Go.back (f' := (mkF m 126 #[.val (.int off), .val (.int ms), .val (.int ss), .val (.int ts), .val (.int ps), .val (.int m'), .val (.int tc), .val (.int sy), .val (.int ti), .val (.int pl), .val (.int co), .val (.int got), .val (.long wi), .second, .val (.int (got - off))] [])) (fun _ k => XS.icmpNo X1.here hx rfl (hb hby at_123) rfl (teq q2).2 k) ?_
    refine Go.back (f' := (mkF m 128 #[.val (.int off), .val (.int ms), .val (.int ss), .val (.int ts), .val (.int ps), .val (.int m'), .val (.int tc), .val (.int sy), .val (.int ti), .val (.int pl), .val (.int co), .val (.int got), .val (.long wi), .second, .val (.int (got - off))] [(.int (got - off))])) (fun _ k => XS.iload X1.here hx rfl (hb hby at_126) rfl k) ?_
    refine Go.back (f' := (mkF m 130 #[.val (.int off), .val (.int ms), .val (.int ss), .val (.int ts), .val (.int ps), .val (.int m'), .val (.int tc), .val (.int sy), .val (.int ti), .val (.int pl), .val (.int co), .val (.int got), .val (.long wi), .second, .val (.int (got - off))] [(.int tc), (.int (got - off))])) (fun _ k => XS.iload X1.here hx rfl (hb hby at_128) rfl k) ?_
    refine Go.back (f' := (mkF m 131 #[.val (.int off), .val (.int ms), .val (.int ss), .val (.int ts), .val (.int ps), .val (.int m'), .val (.int tc), .val (.int sy), .val (.int ti), .val (.int pl), .val (.int co), .val (.int got), .val (.long wi), .second, .val (.int (got - off))] [(.int ((got - off) % tc))])) (fun _ k => iremM X1 hx rfl (hb hby at_130) rfl ntc k) ?_
    refine Go.back (f' := (mkF m 133 #[.val (.int off), .val (.int ms), .val (.int ss), .val (.int ts), .val (.int ps), .val (.int m'), .val (.int tc), .val (.int sy), .val (.int ti), .val (.int pl), .val (.int co), .val (.int got), .val (.long wi), .second, .val (.int (got - off))] [(.int (8 : Int32)), (.int ((got - off) % tc))])) (fun _ k => XS.bipush X1.here hx rfl (hb hby at_131) k) ?_
    refine Go.back (f' := (mkF m 134 #[.val (.int off), .val (.int ms), .val (.int ss), .val (.int ts), .val (.int ps), .val (.int m'), .val (.int tc), .val (.int sy), .val (.int ti), .val (.int pl), .val (.int co), .val (.int got), .val (.long wi), .second, .val (.int (got - off))] [(.int (((got - off) % tc) / (8 : Int32)))])) (fun _ k => XS.idiv X1.here hx rfl (hb hby at_133) rfl (by decide) k) ?_
    refine Go.back (f' := (mkF m 136 #[.val (.int off), .val (.int ms), .val (.int ss), .val (.int ts), .val (.int ps), .val (.int m'), .val (.int tc), .val (.int sy), .val (.int ti), .val (.int pl), .val (.int co), .val (.int got), .val (.long wi), .second, .val (.int (got - off))] [(.int sy), (.int (((got - off) % tc) / (8 : Int32)))])) (fun _ k => XS.iload X1.here hx rfl (hb hby at_134) rfl k) ?_
    refine Go.back (f' := (mkF m 139 #[.val (.int off), .val (.int ms), .val (.int ss), .val (.int ts), .val (.int ps), .val (.int m'), .val (.int tc), .val (.int sy), .val (.int ti), .val (.int pl), .val (.int co), .val (.int got), .val (.long wi), .second, .val (.int (got - off))] [])) (fun _ k => XS.icmpNo X1.here hx rfl (hb hby at_136) rfl (teq q3).2 k) ?_
    refine Go.back (f' := (mkF m 141 #[.val (.int off), .val (.int ms), .val (.int ss), .val (.int ts), .val (.int ps), .val (.int m'), .val (.int tc), .val (.int sy), .val (.int ti), .val (.int pl), .val (.int co), .val (.int got), .val (.long wi), .second, .val (.int (got - off))] [(.int (got - off))])) (fun _ k => XS.iload X1.here hx rfl (hb hby at_139) rfl k) ?_
    refine Go.back (f' := (mkF m 143 #[.val (.int off), .val (.int ms), .val (.int ss), .val (.int ts), .val (.int ps), .val (.int m'), .val (.int tc), .val (.int sy), .val (.int ti), .val (.int pl), .val (.int co), .val (.int got), .val (.long wi), .second, .val (.int (got - off))] [(.int tc), (.int (got - off))])) (fun _ k => XS.iload X1.here hx rfl (hb hby at_141) rfl k) ?_
    refine Go.back (f' := (mkF m 144 #[.val (.int off), .val (.int ms), .val (.int ss), .val (.int ts), .val (.int ps), .val (.int m'), .val (.int tc), .val (.int sy), .val (.int ti), .val (.int pl), .val (.int co), .val (.int got), .val (.long wi), .second, .val (.int (got - off))] [(.int ((got - off) / tc))])) (fun _ k => XS.idiv X1.here hx rfl (hb hby at_143) rfl ntc k) ?_
    refine Go.back (f' := (mkF m 146 #[.val (.int off), .val (.int ms), .val (.int ss), .val (.int ts), .val (.int ps), .val (.int m'), .val (.int tc), .val (.int sy), .val (.int ti), .val (.int pl), .val (.int co), .val (.int got), .val (.long wi), .second, .val (.int (got - off))] [(.int ti), (.int ((got - off) / tc))])) (fun _ k => XS.iload X1.here hx rfl (hb hby at_144) rfl k) ?_
    refine Go.back (f' := (mkF m 149 #[.val (.int off), .val (.int ms), .val (.int ss), .val (.int ts), .val (.int ps), .val (.int m'), .val (.int tc), .val (.int sy), .val (.int ti), .val (.int pl), .val (.int co), .val (.int got), .val (.long wi), .second, .val (.int (got - off))] [])) (fun _ k => XS.icmpNo X1.here hx rfl (hb hby at_146) rfl (teq q4).2 k) ?_
    refine Go.back (f' := (mkF m 150 #[.val (.int off), .val (.int ms), .val (.int ss), .val (.int ts), .val (.int ps), .val (.int m'), .val (.int tc), .val (.int sy), .val (.int ti), .val (.int pl), .val (.int co), .val (.int got), .val (.long wi), .second, .val (.int (got - off))] [(.int (1 : Int32))])) (fun _ k => XS.iconst X1.here hx rfl (hb hby at_149) k) ?_
    refine Go.back (f' := (mkF m 154 #[.val (.int off), .val (.int ms), .val (.int ss), .val (.int ts), .val (.int ps), .val (.int m'), .val (.int tc), .val (.int sy), .val (.int ti), .val (.int pl), .val (.int co), .val (.int got), .val (.long wi), .second, .val (.int (got - off))] [(.int (1 : Int32))])) (fun _ k => XS.goto X1.here hx rfl (pc0 := 150) (pc' := 154) rfl (hb hby at_150) (by decide) (by decide) k) ?_
    exact Go.retN X1 hx (t := .boolean) hret (by simp) (w := (1 : Int32)) rfl hlk (hb hby at_154) (by (try rw [hh1]); exact ⟨rfl, Fr.nil _⟩) (Nat.zero_le _) (Nat.zero_le _)
set_option maxRecDepth 65536 in
set_option maxHeartbeats 40000000 in
theorem comes_1 {Post : Tables → Env → Array Value → State → Outcome → State → Prop} (hpost : ∀ tb e args s v u, (limb_1_1.after args s (.returned v) u = true ∧ limb_1_2.after args s (.returned v) u = true ∧ True) → FrameEnd s (.returned v) u (Jvm.fieldLocs frame_1_writes args s ++ Jvm.arrayLocs frame_1_arrays args s ++ Jvm.staticLocs frame_1_statics s) 0 0 → Post tb e args s (.returned v) u) :
    ArmFor flags0 classFile x code maxLocals ret World_1 tables_1 room_1 Calls_1 rest_1 Pre_1 Post := by
  intro l hfl _ _ p e ha hc hk s m args below hf hA hF happ hP
  obtain ⟨hcalls, hrest, hpre⟩ := hP
  obtain ⟨-, -, -, hnamed, -, -, -, hat⟩ := (Spec.applies_iff hf).mp happ
  obtain ⟨hg, hn⟩ := and_e (Cond.before_iff.mp (show (Jvm.Cond.and given_1 narrow_1).before args s = true from hpre))
  obtain ⟨hcnt, hg0⟩ := and_e hg
  obtain ⟨ht0, hg1⟩ := and_e hg0
  obtain ⟨ht1, hg2⟩ := and_e hg1
  obtain ⟨ht2, hg3⟩ := and_e hg2
  obtain ⟨ht3, hg4⟩ := and_e hg3
  have ht4 := hg4
  obtain ⟨w0, w1, w2, w3, w4, rfl⟩ : ∃ w0 w1 w2 w3 w4 : Value, args = #[w0, w1, w2, w3, w4] := by
    have hs : args.size = 5 := by simpa [Cond.value, given_1] using hcnt
    obtain ⟨L⟩ := args
    match L, hs with
    | [w0, w1, w2, w3, w4], _ => exact ⟨w0, w1, w2, w3, w4, rfl⟩
  have hw := fun d (hd : d ∈ tables_1) => atoms_spec (ws := Jvm.Cond.code x code maxLocals ret :: tables_1) hat d (List.mem_cons_of_mem _ hd)
  have hfit : Fit s := fun {y c} hc i hi => by
    obtain ⟨ha, rfl⟩ := Array.getElem?_eq_some_iff.mp hc
    have q := List.all_eq_true.mp ((Array.all_eq_true_iff_forall_mem.mp hF) _ (Array.getElem_mem ha)) i (List.mem_range.mpr hi)
    simpa [Array.getElem?_eq_getElem hi] using q
  obtain ⟨i0, ei0⟩ := is_v ht0
  obtain rfl : w0 = (.int i0) := Option.some.inj ei0
  obtain ⟨i1, ei1⟩ := is_v ht1
  obtain rfl : w1 = (.int i1) := Option.some.inj ei1
  obtain ⟨i2, ei2⟩ := is_v ht2
  obtain rfl : w2 = (.int i2) := Option.some.inj ei2
  obtain ⟨i3, ei3⟩ := is_v ht3
  obtain rfl : w3 = (.int i3) := Option.some.inj ei3
  obtain ⟨i4, ei4⟩ := is_v ht4
  obtain rfl : w4 = (.int i4) := Option.some.inj ei4
  obtain ⟨n, o, h1, h2, h3, _, L, rfl, ⟨rfl, N⟩, hq⟩ := (rm0 l s _ hw i0 i1 i2 i3 i4 s.heap.size s.heap) tables_1 p e ha hc hk s m _ below hf ((Spec.applies_iff_loose hf).mp happ).1 ⟨rfl, State.Warmed39.refl s, rfl⟩ trivial
  refine ⟨n, _, h1, h2, h3, hpost _ _ _ _ _ _ ⟨Cond.after_iff.mpr rfl, Cond.after_iff.mpr (eq_i res_at (Term.int_eval (1)) rfl), trivial⟩ ⟨hq.1, hq.2.1, (hq.2.2.sift fun y hy => Or.inr (N y hy)).mono (by decide) (by decide)⟩⟩
theorem main_1_1 : Claimed_1_1 := comes_1 fun _ _ _ _ _ _ h hF => ⟨h.1, hF⟩
theorem main_1_2 : Claimed_1_2 := comes_1 fun _ _ _ _ _ _ h hF => ⟨h.2.1, hF⟩
end Jvm.Pilot.@@N@@
namespace Jvm.Pilot.@@N@@
open Jvm Jvm.ClassFile Sem Op Lib Jvm.Free Jvm.Stand Jvm.Pilot.@@N@@.Jvm.D
/-! MADE BY PROGRAM (witnessworld.py) out of the Statement's table words and the real class files: 7 classes; the members and pool entries that the words name. The judged class is class 1, her method 1. -/
namespace start1
open Jvm.ClassFile
def u (s : String) : CpInfo := .utf8 (stringToUtf16 s)
/-- a pool by its gaps: so many unusable entries, then the entry; so many at the end -/
def gap : Nat → List CpInfo → List CpInfo
  | 0, r => r
  | n + 1, r => .unusable :: gap n r
def poolList (es : List (Nat × CpInfo)) (last : Nat) : List CpInfo := es.foldr (fun e r => gap e.1 (e.2 :: r)) (gap last [])
def pool (es : List (Nat × CpInfo)) (last : Nat) : Array CpInfo := ⟨poolList es last⟩
def fileOf (pool : Array CpInfo) (this : Nat) (attrs : Array Attribute := #[]) (ms : Array MethodInfo := #[]) (fl : Nat := 33) (sup : Nat := 0) (ifs : Array Nat := #[]) (fds : Array FieldInfo := #[]) : ClassFile where
  minorVersion := 0
  majorVersion := 65
  constantPool := pool
  accessFlags := fl
  thisClass := this
  superClass := sup
  interfaces := ifs
  fields := fds
  methods := ms
  attributes := attrs
def plain (name : String) (sup : Option ClassId) : Class where
  name := name
  kind := .ordinary
  loader := none
  accessFlags := 33
  super := sup
  interfaces := #[]
  cf := none
  fields := #[]
  methods := #[]
  instanceTypes := #[]
  staticTypes := #[]
  resolved := #[]
  callSites := []
  init := .initialized
  statics := none
  mirror := none

def pool0 : Array CpInfo := pool [(5, u "<init>"), (0, u "()V"), (1, .class_ 10), (1, u "java/lang/Object")] 113

def k0m0 : Method := { name := "<init>", desc := "()V", sig := { parameters := [], returnType := none }, accessFlags := 1, code := none }
/-- java/lang/Object -/
def k0 : Class := { plain "java/lang/Object" none with
  accessFlags := 33
  interfaces := #[]
  cf := some (fileOf pool0 8 #[] #[{ accessFlags := 1, nameIndex := 5, descriptorIndex := 6, attributes := #[] }] 33 0 #[] #[])
  fields := #[]
  methods := #[k0m0]
  instanceTypes := #[]
  staticTypes := #[]
  resolved := Array.replicate 124 none
  statics := none }

def pool1 : Array CpInfo := pool [(2, .class_ 4), (1, u "java/lang/Object"), (0, u "<init>"), (0, u "()V"), (0, .integer 2147483647), (0, .integer 268435455), (0, .methodref 10 11), (0, .class_ 12), (0, .nameAndType 13 14), (0, u "com/example/brisk_matrix/briskmatrix/statistics/PairCounts"), (0, u "cell"), (0, u "(IIII)I"), (0, .long 8), (3, .long 2147483647), (1, .class_ 22), (0, u "com/example/brisk_matrix/briskmatrix/statistics/PairCountsCellPinLaw"), (2, u "law"), (0, u "(IIIII)Z")] 3

def k1m0 : Method := { name := "<init>", desc := "()V", sig := { parameters := [], returnType := none }, accessFlags := 1, code := none }
def k1c1 : Code := { maxStack := 6, maxLocals := 15, code := code, exceptionTable := #[], attributes := #[] }
def k1m1 : Method := { name := "law", desc := "(IIIII)Z", sig := { parameters := [.int, .int, .int, .int, .int], returnType := some .boolean }, accessFlags := 9, code := some k1c1 }
/-- com/example/brisk_matrix/briskmatrix/statistics/PairCountsCellPinLaw -/
def k1 : Class := { plain "com/example/brisk_matrix/briskmatrix/statistics/PairCountsCellPinLaw" (some 0) with
  accessFlags := 49
  interfaces := #[]
  cf := some (fileOf pool1 21 #[] #[{ accessFlags := 1, nameIndex := 5, descriptorIndex := 6, attributes := #[] }, { accessFlags := 9, nameIndex := 25, descriptorIndex := 26, attributes := #[] }] 49 2 #[] #[])
  fields := #[]
  methods := #[k1m0, k1m1]
  instanceTypes := #[]
  staticTypes := #[]
  resolved := Array.replicate 30 none
  statics := none }

def pool2 : Array CpInfo := pool [(1, .class_ 2), (0, u "com/example/brisk_matrix/briskmatrix/statistics/PairCounts"), (3, .class_ 8), (1, u "java/lang/Object"), (26, u "alignment"), (0, u "Lcom/example/brisk_matrix/briskmatrix/alignment/Alignment;"), (1, u "[I"), (2, u "numbers"), (0, u "[[I"), (2, u "counts"), (2, u "codes"), (2, u "omitted"), (14, u "maxSymbols"), (0, u "I"), (2, u "keptRows"), (2, u "tileCells"), (2, u "tileSymbols"), (13, u "width"), (0, .class_ 92), (0, u "com/example/brisk_matrix/briskmatrix/statistics/PairCounts$Block"), (2, u "blocks"), (0, u "[Lcom/example/brisk_matrix/briskmatrix/statistics/PairCounts$Block;"), (5, u "order"), (2, u "starts"), (2, u "wholeCounts"), (0, u "Lcom/example/brisk_matrix/briskmatrix/statistics/PairCounts$WholeCounts;"), (0, .class_ 111), (0, u "com/example/brisk_matrix/briskmatrix/statistics/PairCounts$WholeCounts"), (13, u "weightSums"), (0, u "Lcom/example/brisk_matrix/briskmatrix/statistics/PairCounts$WeightSums;"), (0, .class_ 128), (0, u "com/example/brisk_matrix/briskmatrix/statistics/PairCounts$WeightSums"), (6, u "next"), (25, u "OMITTED_SHARE"), (2, u "BLOCK_CELLS"), (1, u "COUNTED_AT_ONCE"), (0, u "SPARE_CELLS"), (1, u "TILE"), (0, u "MAX_SEQUENCES"), (0, u "cell"), (0, u "(IIII)I"), (10, .class_ 184), (0, u "com/example/brisk_matrix/briskmatrix/statistics/PairCounts$Tally"), (6, .class_ 192), (0, u "com/example/brisk_matrix/briskmatrix/statistics/PairCounts$WeightedRows"), (0, .class_ 194), (0, u "com/example/brisk_matrix/briskmatrix/statistics/PairCounts$Rows")] 23

def k2c0 : Code := { maxStack := 3, maxLocals := 4, code := prog_72_method_1_code, exceptionTable := #[], attributes := #[] }
def k2m0 : Method := { name := "cell", desc := "(IIII)I", sig := { parameters := [.int, .int, .int, .int], returnType := some .int }, accessFlags := 8, code := some k2c0 }
/-- com/example/brisk_matrix/briskmatrix/statistics/PairCounts -/
def k2 : Class := { plain "com/example/brisk_matrix/briskmatrix/statistics/PairCounts" (some 0) with
  accessFlags := 33
  interfaces := #[]
  cf := some (fileOf pool2 1 #[.nestMembers #[127, 110, 183, 91, 191, 193]] #[{ accessFlags := 8, nameIndex := 171, descriptorIndex := 172, attributes := #[] }] 33 6 #[] #[{ accessFlags := 26, nameIndex := 161, descriptorIndex := 67, attributes := #[] }, { accessFlags := 26, nameIndex := 164, descriptorIndex := 67, attributes := #[] }, { accessFlags := 26, nameIndex := 166, descriptorIndex := 67, attributes := #[] }, { accessFlags := 26, nameIndex := 167, descriptorIndex := 67, attributes := #[] }, { accessFlags := 24, nameIndex := 169, descriptorIndex := 67, attributes := #[] }, { accessFlags := 25, nameIndex := 170, descriptorIndex := 67, attributes := #[] }, { accessFlags := 18, nameIndex := 35, descriptorIndex := 36, attributes := #[] }, { accessFlags := 18, nameIndex := 41, descriptorIndex := 42, attributes := #[] }, { accessFlags := 18, nameIndex := 45, descriptorIndex := 42, attributes := #[] }, { accessFlags := 18, nameIndex := 48, descriptorIndex := 42, attributes := #[] }, { accessFlags := 18, nameIndex := 51, descriptorIndex := 38, attributes := #[] }, { accessFlags := 18, nameIndex := 66, descriptorIndex := 67, attributes := #[] }, { accessFlags := 18, nameIndex := 70, descriptorIndex := 67, attributes := #[] }, { accessFlags := 18, nameIndex := 90, descriptorIndex := 67, attributes := #[] }, { accessFlags := 18, nameIndex := 73, descriptorIndex := 67, attributes := #[] }, { accessFlags := 18, nameIndex := 76, descriptorIndex := 38, attributes := #[] }, { accessFlags := 18, nameIndex := 95, descriptorIndex := 96, attributes := #[] }, { accessFlags := 18, nameIndex := 102, descriptorIndex := 38, attributes := #[] }, { accessFlags := 18, nameIndex := 105, descriptorIndex := 38, attributes := #[] }, { accessFlags := 2, nameIndex := 108, descriptorIndex := 109, attributes := #[] }, { accessFlags := 2, nameIndex := 125, descriptorIndex := 126, attributes := #[] }, { accessFlags := 2, nameIndex := 135, descriptorIndex := 67, attributes := #[] }])
  fields := #[{ name := "OMITTED_SHARE", type := .int, accessFlags := 26, slot := 0, constantValue := 0 }, { name := "BLOCK_CELLS", type := .int, accessFlags := 26, slot := 1, constantValue := 0 }, { name := "COUNTED_AT_ONCE", type := .int, accessFlags := 26, slot := 2, constantValue := 0 }, { name := "SPARE_CELLS", type := .int, accessFlags := 26, slot := 3, constantValue := 0 }, { name := "TILE", type := .int, accessFlags := 24, slot := 4, constantValue := 0 }, { name := "MAX_SEQUENCES", type := .int, accessFlags := 25, slot := 5, constantValue := 0 }, { name := "alignment", type := (.object "com/example/brisk_matrix/briskmatrix/alignment/Alignment"), accessFlags := 18, slot := 0, constantValue := 0 }, { name := "numbers", type := (.array (.array .int)), accessFlags := 18, slot := 1, constantValue := 0 }, { name := "counts", type := (.array (.array .int)), accessFlags := 18, slot := 2, constantValue := 0 }, { name := "codes", type := (.array (.array .int)), accessFlags := 18, slot := 3, constantValue := 0 }, { name := "omitted", type := (.array .int), accessFlags := 18, slot := 4, constantValue := 0 }, { name := "maxSymbols", type := .int, accessFlags := 18, slot := 5, constantValue := 0 }, { name := "keptRows", type := .int, accessFlags := 18, slot := 6, constantValue := 0 }, { name := "width", type := .int, accessFlags := 18, slot := 7, constantValue := 0 }, { name := "tileCells", type := .int, accessFlags := 18, slot := 8, constantValue := 0 }, { name := "tileSymbols", type := (.array .int), accessFlags := 18, slot := 9, constantValue := 0 }, { name := "blocks", type := (.array (.object "com/example/brisk_matrix/briskmatrix/statistics/PairCounts$Block")), accessFlags := 18, slot := 10, constantValue := 0 }, { name := "order", type := (.array .int), accessFlags := 18, slot := 11, constantValue := 0 }, { name := "starts", type := (.array .int), accessFlags := 18, slot := 12, constantValue := 0 }, { name := "wholeCounts", type := (.object "com/example/brisk_matrix/briskmatrix/statistics/PairCounts$WholeCounts"), accessFlags := 2, slot := 13, constantValue := 0 }, { name := "weightSums", type := (.object "com/example/brisk_matrix/briskmatrix/statistics/PairCounts$WeightSums"), accessFlags := 2, slot := 14, constantValue := 0 }, { name := "next", type := .int, accessFlags := 2, slot := 15, constantValue := 0 }]
  methods := #[k2m0]
  instanceTypes := #[(.object "com/example/brisk_matrix/briskmatrix/alignment/Alignment"), (.array (.array .int)), (.array (.array .int)), (.array (.array .int)), (.array .int), .int, .int, .int, .int, (.array .int), (.array (.object "com/example/brisk_matrix/briskmatrix/statistics/PairCounts$Block")), (.array .int), (.array .int), (.object "com/example/brisk_matrix/briskmatrix/statistics/PairCounts$WholeCounts"), (.object "com/example/brisk_matrix/briskmatrix/statistics/PairCounts$WeightSums"), .int]
  staticTypes := #[.int, .int, .int, .int, .int, .int]
  resolved := Array.replicate 218 none
  statics := none }

def pool3 : Array CpInfo := pool [(1, u "java/lang/Cloneable"), (0, .class_ 1), (0, u "java/lang/Object"), (0, .class_ 3)] 3

/-- java/lang/Cloneable -/
def k3 : Class := { plain "java/lang/Cloneable" (some 0) with
  accessFlags := 1537
  interfaces := #[]
  cf := some (fileOf pool3 2 #[] #[] 1537 4 #[] #[])
  fields := #[]
  methods := #[]
  instanceTypes := #[]
  staticTypes := #[]
  resolved := Array.replicate 8 none
  statics := none }

def pool4 : Array CpInfo := pool [(1, u "java/io/Serializable"), (0, .class_ 1), (0, u "java/lang/Object"), (0, .class_ 3)] 3

/-- java/io/Serializable -/
def k4 : Class := { plain "java/io/Serializable" (some 0) with
  accessFlags := 1537
  interfaces := #[]
  cf := some (fileOf pool4 2 #[] #[] 1537 4 #[] #[])
  fields := #[]
  methods := #[]
  instanceTypes := #[]
  staticTypes := #[]
  resolved := Array.replicate 8 none
  statics := none }

/-- the primitive byte -/
def k5 : Class := { plain "byte" none with kind := .primitive 'B', accessFlags := 0x411 }
/-- [B -/
def k6 : Class := { plain "[B" (some 0) with kind := .array 5 .byte, interfaces := #[3, 4], accessFlags := 1041 }

def heap : Heap := #[]
def classes : Array Class := #[k0, k1, k2, k3, k4, k5, k6]
def interned : List (Array UInt16 × Addr) := []
def slotsUsed : Nat := 0
def theMethod : MethodId := ⟨1, 1⟩
def args0 : Array Value := #[.int 1, .int 2, .int 3, .int 4, .int 5]
def aboutOver (below : List Frame) : State where
  vm := { classes := classes, interned := interned.toArray }
  heap := heap
  slotsUsed := slotsUsed
  threads := #[{ frames := .invoking theMethod args0 :: below }]
def below0 : List Frame := [.native { method := ⟨0, 0⟩, args := #[] }]
def about1 : State := aboutOver below0
def p0 : Program := .bare "" "" ""
def e0 : Env := launch0.env 0 0 0
theorem w_frames : about1.frames = Frame.invoking theMethod args0 :: below0 := rfl
set_option maxRecDepth 65536 in
theorem w_args : argsFit about1.vm theMethod args0 = true := by decide +kernel
set_option maxRecDepth 65536 in
theorem w_heap : heapFits about1 = true := by decide +kernel
set_option maxRecDepth 65536 in
theorem w_runnable : about1.curStatus? = some .runnable := by decide +kernel
set_option maxRecDepth 65536 in
theorem w_alone : about1.alone = true := by decide +kernel
set_option maxRecDepth 65536 in
theorem w_named : about1.methodNamed? x = some theMethod := by decide +kernel
set_option maxRecDepth 65536 in
theorem w_hears : about1.hears theMethod below0 = true := by decide +kernel
set_option maxRecDepth 65536 in
theorem w_ripe : about1.ripe theMethod args0 below0 = true := by decide +kernel
theorem w_running : about1.status = .running := rfl
set_option maxRecDepth 65536 in
theorem w_room : about1.hasRoom e0.platform room_1 = true :=
  launch0.hasRoom_least _ room_1 (by decide +kernel) (by decide +kernel) (by decide +kernel) (by decide +kernel) (by decide +kernel) (by decide +kernel)
theorem allAtoms_all (ts : List Jvm.Cond) (a : Array Jvm.Value) (st : Jvm.State) : (allAtoms ts).before a st = ts.all (fun c => c.before a st) := by
  induction ts with
  | nil => rfl
  | cons c t ih =>
    show (Jvm.Cond.and c (allAtoms t)).before a st = _
    rw [Jvm.Cond.before_and, ih, List.all_cons]
def words1 : List Jvm.Cond := Jvm.Cond.code x code maxLocals ret :: tables_1
/-- a 'code' word, met by the world's own term for the bytes: nothing is compared byte by byte -/
theorem code_word {y : MethodName} {bytes : ByteArray} {mx : Nat} {rt : Option FieldType} {a : Array Value} {s : State} {m : MethodId} {meth : Method} {c : Code} (h1 : s.methodNamed? y = some m) (h2 : s.vm.method? m = some meth) (h3 : meth.code = some c) (h4 : c.code = bytes)
    (h5 : (c.maxLocals == mx && c.exceptionTable.isEmpty && decide (c.maxStack ≤ mostOperands) && decide (meth.sig.returnType = rt) && !meth.locks && decide (parseMethodDescriptor y.desc = some meth.sig)) = true) : (Jvm.Cond.code y bytes mx rt).before a s = true := by
  simp only [Bool.and_eq_true, beq_iff_eq, Bool.not_eq_true', decide_eq_true_eq] at h5
  obtain ⟨⟨⟨⟨⟨g1, g2⟩, g3⟩, g4⟩, g5⟩, g6⟩ := h5
  simp [Cond.before, Cond.holds, Cond.value, h1, h2, h3, h4, g1, g2, g3, g4, g5, g6]
def isCode : Jvm.Cond → Bool
  | .code _ _ _ _ => true
  | _ => false
theorem all_split {L : List Jvm.Cond} {P : Jvm.Cond → Bool} (h1 : L.all (fun c => isCode c || P c) = true) (h2 : ∀ c ∈ L.filter isCode, P c = true) : L.all P = true := by
  refine List.all_eq_true.mpr fun c hc => ?_
  have h := List.all_eq_true.mp h1 c hc
  rcases Bool.eq_false_or_eq_true (isCode c) with hi | hi
  · exact h2 c (List.mem_filter.mpr ⟨hc, hi⟩)
  · simpa [hi] using h
set_option maxRecDepth 65536 in
theorem w_c0 : (Jvm.Cond.code x code maxLocals ret).before args0 about1 = true := code_word (m := ⟨1, 1⟩) (meth := k1m1) (c := k1c1) (by decide +kernel) rfl rfl rfl (by decide +kernel)
set_option maxRecDepth 65536 in
theorem w_c1 : (Jvm.Cond.code ({ cls := "com/example/brisk_matrix/briskmatrix/statistics/PairCounts", name := "cell", desc := "(IIII)I" } : Jvm.MethodName) prog_72_method_1_code (4 : Nat) (Option.some Jvm.ClassFile.FieldType.int)).before args0 about1 = true := code_word (m := ⟨2, 0⟩) (meth := k2m0) (c := k2c0) (by decide +kernel) rfl rfl rfl (by decide +kernel)
def codes1 : List Jvm.Cond := [Jvm.Cond.code x code maxLocals ret, Jvm.Cond.code ({ cls := "com/example/brisk_matrix/briskmatrix/statistics/PairCounts", name := "cell", desc := "(IIII)I" } : Jvm.MethodName) prog_72_method_1_code (4 : Nat) (Option.some Jvm.ClassFile.FieldType.int)]
set_option maxRecDepth 65536 in
theorem codes_eq : words1.filter isCode = codes1 := rfl
theorem w_codes : ∀ c ∈ words1.filter isCode, c.before args0 about1 = true := by
  rw [codes_eq]
  intro c hc
  simp only [codes1, List.mem_cons, List.not_mem_nil, or_false] at hc
  rcases hc with rfl | rfl
  · exact w_c0
  · exact w_c1
set_option maxRecDepth 65536 in
theorem w_t1 : words1.all (fun c => isCode c || c.before args0 about1) = true := by decide +kernel
theorem w_tables : (allAtoms (Jvm.Cond.code x code maxLocals ret :: tables_1)).before args0 about1 = true := by
  rw [allAtoms_all]
  show words1.all (fun c => c.before args0 about1) = true
  refine all_split ?_ w_codes
  rw [w_t1]
set_option maxRecDepth 65536 in
theorem w_case : (Jvm.Cond.and given_1 narrow_1).before args0 about1 = true := by decide +kernel
theorem w_applies : (headSpec (Jvm.Cond.code x code maxLocals ret :: tables_1) room_1).applies x e0.platform about1 = true :=
  (Spec.applies_iff w_frames).mpr ⟨w_running, w_runnable, w_alone, w_named, w_hears, w_ripe, w_room, w_tables⟩
theorem atStart : AtStart classFile x code maxLocals ret World_1 tables_1 room_1 Calls_1 rest_1 Pre_1 launch0 p0 e0 about1 theMethod args0 below0 :=
  ⟨lists_1, trivial, launch0.admits_env _ _ _, launch0.least_env, fairChoices_fair.cas, fairChoices_fair.clock, w_frames, w_args, w_heap, w_applies, trivial, trivial, w_case⟩
end start1
theorem witness_1 : WitnessClaimed_1 := ⟨start1.p0, start1.e0, start1.about1, start1.theMethod, start1.args0, start1.below0, start1.atStart⟩
end Jvm.Pilot.@@N@@
