import JvmDerived
import JvmDerived.Pilot.@@N@@Statement
import JvmDerived.Pilot.@@N@@Code
set_option linter.unusedVariables false
set_option linter.unusedSimpArgs false
namespace Jvm.OwnKit
open Sem ClassFile Op Lib Jvm.Stand Jvm.Free Jvm.LawKit Jvm.RoadKit
section Core
variable {p : Program} {l : Launch} {e : Env} {R : Room} {s : State} {m : MethodId} {args : Array Value} {below : List Frame} {meth : Method} {c : Code} {T T' : State} {locs : List Loc} {cells slots : Nat} {Z : State} {a0 : Array Value} {h : Heap}
  {Q Q' : Option Value → Heap → List Loc → Prop} {kc ks : Nat} {F : Outcome → State → Prop}
/-- from the frame f over T the body comes to its end, and F holds there -/
def GoG (p : Program) (e : Env) (below : List Frame) (F : Outcome → State → Prop) (T : State) (f : JFrame) : Prop :=
  ∃ t o, Steps p.tables e below (T.setTop f) t ∧ t.status = .running ∧ Ended t below o ∧ F o t
/-- .. Q holds there, and the frame is kept -/
def Fin (s : State) (Q : Option Value → Heap → List Loc → Prop) (kc ks : Nat) : Outcome → State → Prop := fun o t => ∃ v L, o = .returned v ∧ Q v t.heap L ∧ FrameEnd s o t L kc ks
abbrev Go (p : Program) (e : Env) (below : List Frame) (s : State) (Q : Option Value → Heap → List Loc → Prop) (kc ks : Nat) (T : State) (f : JFrame) : Prop := GoG p e below (Fin s Q kc ks) T f
theorem Go.back {f f' : JFrame} (st : ∀ t, Steps p.tables e below (T'.setTop f') t → Steps p.tables e below (T.setTop f) t) (k : GoG p e below F T' f') : GoG p e below F T f := by
  obtain ⟨t, o, h1, h2⟩ := k; exact ⟨t, o, st _ h1, h2⟩
theorem Go.cast {f f' : JFrame} (q : f = f') (k : GoG p e below F T f') : GoG p e below F T f := q ▸ k
theorem Go.imp {f : JFrame} (q : ∀ v h L, Q' v h L → Q v h L) (k : Go p e below s Q' kc ks T f) : Go p e below s Q kc ks T f := by
  obtain ⟨t, o, h1, h2, h3, v, L, h4, h5, h6⟩ := k; exact ⟨t, o, h1, h2, h3, v, L, h4, q _ _ _ h5, h6⟩
theorem Go.done (X : Stand p l e R s m args below meth c T locs cells slots) {v : Option Value} {f0 : JFrame} (hv : meth.sig.returnType = none → v = none) (hlk : meth.locks = false)
    (st : ∀ fs, (∀ (f : JFrame) (acts : List Action), f.method = m → f.locked = none → f.entered = [] → (doReturn e (T.setTop f) acts v).1 = T.setFrames fs) → Steps p.tables e below (T.setTop f0) (T.setFrames fs))
    (hQ : Q v T.heap locs) (hc : cells ≤ kc) (hs : slots ≤ ks) : Go p e below s Q kc ks T f0 := by
  obtain ⟨fs, hr, hrun, hended, hW, hsame⟩ := X.leave (v := v) hv hlk
  exact ⟨_, _, st fs hr, hrun, hended, v, locs, rfl, hQ, ⟨_, rfl⟩, hW, hsame.mono hc hs⟩
theorem Go.retI (X : Stand p l e R s m args below meth c T locs cells slots) (hx : p.tables.exec = Jvm.exec) {pc : Nat} {Ls : Array Slot} {z : Int32} {rest : List Value} (hret : meth.sig.returnType = some .int) (hlk : meth.locks = false) (hd : decode c.code pc = .ok (.ireturn, 1))
    (hQ : Q (some (.int z)) T.heap locs) (hc : cells ≤ kc) (hs : slots ≤ ks) : Go p e below s Q kc ks T (mkF m pc Ls (.int z :: rest)) :=
  Go.done X (fun q => by rw [hret] at q; cases q) hlk (fun _ hl => retOut X hx hret rfl (Or.inl ⟨rfl, Or.inl rfl, z, rfl⟩) hd hl) hQ hc hs
theorem Go.retJ (X : Stand p l e R s m args below meth c T locs cells slots) (hx : p.tables.exec = Jvm.exec) {pc : Nat} {Ls : Array Slot} {z : Int64} {rest : List Value} (hret : meth.sig.returnType = some .long) (hlk : meth.locks = false) (hd : decode c.code pc = .ok (.lreturn, 1))
    (hQ : Q (some (.long z)) T.heap locs) (hc : cells ≤ kc) (hs : slots ≤ ks) : Go p e below s Q kc ks T (mkF m pc Ls (.long z :: rest)) :=
  Go.done X (fun q => by rw [hret] at q; cases q) hlk (fun _ hl => retOut X hx hret rfl (Or.inr (Or.inl ⟨rfl, rfl, z, rfl⟩)) hd hl) hQ hc hs
theorem narrow_ref {t : FieldType} {w : Value} (hw : w.isRef = true) : narrow t w = w := by
  cases w <;> simp [Value.isRef] at hw <;> cases t <;> rfl
theorem Go.retA (X : Stand p l e R s m args below meth c T locs cells slots) (hx : p.tables.exec = Jvm.exec) {pc : Nat} {Ls : Array Slot} {w : Value} {t : FieldType} {rest : List Value} (hret : meth.sig.returnType = some t) (hlk : meth.locks = false) (hd : decode c.code pc = .ok (.areturn, 1)) (ht : t.isReference = true) (hw : w.isRef = true)
    (hQ : Q (some w) T.heap locs) (hc : cells ≤ kc) (hs : slots ≤ ks) : Go p e below s Q kc ks T (mkF m pc Ls (w :: rest)) :=
  Go.done X (fun q => by rw [hret] at q; cases q) hlk (fun _ hl => retOut X hx hret (narrow_ref hw) (Or.inr (Or.inr (Or.inr (Or.inr ⟨rfl, ht, hw⟩)))) hd hl) hQ hc hs
theorem Go.ret0 (X : Stand p l e R s m args below meth c T locs cells slots) (hx : p.tables.exec = Jvm.exec) {pc : Nat} {Ls : Array Slot} (hret : meth.sig.returnType = none) (hlk : meth.locks = false) (hd : decode c.code pc = .ok (.return_, 1))
    (hQ : Q none T.heap locs) (hc : cells ≤ kc) (hs : slots ≤ ks) : Go p e below s Q kc ks T (mkF m pc Ls []) :=
  Go.done X (fun _ => rfl) hlk (fun _ hl => X.returnOut hx hret hd hl) hQ hc hs
theorem Go.retN (X : Stand p l e R s m args below meth c T locs cells slots) (hx : p.tables.exec = Jvm.exec) {pc : Nat} {Ls : Array Slot} {z w : Int32} {t : FieldType} {rest : List Value} (hret : meth.sig.returnType = some t) (ht : t = .boolean ∨ t = .byte ∨ t = .char ∨ t = .short) (hw : nar t z = w) (hlk : meth.locks = false) (hd : decode c.code pc = .ok (.ireturn, 1))
    (hQ : Q (some (.int w)) T.heap locs) (hc : cells ≤ kc) (hs : slots ≤ ks) : Go p e below s Q kc ks T (mkF m pc Ls (.int z :: rest)) :=
  Go.done X (fun q => by rw [hret] at q; cases q) hlk (fun _ hl => Jvm.RoadKit.retN X hx hret ht hd (by rw [hw]; exact hl)) hQ hc hs
theorem nar_bool {z : Int32} (hz : z = 0 ∨ z = 1) : nar .boolean z = z := by rcases hz with rfl | rfl <;> rfl
/-- a body's contract, said of one heap and one array of arguments -/
def Met (l : Launch) (Z : State) (y : MethodName) (bytes : ByteArray) (maxL : Nat) (ret : Option FieldType) (rm : Room) (as' : Array Value) (h : Heap) (Q : Option Value → Heap → List Loc → Prop) : Prop :=
  ∀ ws : List Jvm.Cond, MetFree l y (head1 (Jvm.Cond.code y bytes maxL ret :: ws) rm) (fun a U => a = as' ∧ Z.Warmed39 U.vm ∧ U.heap = h) (fun _ _ _ _ _ => True) (fun _ U o U' => ∃ v L, o = .returned v ∧ Q v U'.heap L ∧ FrameEnd U o U' L rm.cells rm.slots)
variable {y z : MethodName} {bytes : ByteArray} {maxL : Nat} {ret : Option FieldType} {rm : Room} {as' : Array Value}
theorem Met.intro (hp : plainFor y = true) (body : ∀ (p : Program) (e : Env) (s : State) (m : MethodId) (below : List Frame) (meth : Method) (c : Code) (T : State),
      p.tables.exec = Jvm.exec → c.code = bytes → c.maxLocals = maxL → s.vm.findClass y.cls = some m.cls → meth.name = y.name → meth.sig.returnType = ret → meth.locks = false → Z.Warmed39 s.vm →
      Stand p l e rm s m as' below meth c T [] 0 0 → T.heap = h → Go p e below s Q rm.cells rm.slots T (entryFrame m as' maxL)) : Met l Z y bytes maxL ret rm as' h Q := by
  intro ws
  refine MetFree.of_bodySF hp hisR ?_
  intro p e s m args below meth c s₁ Bd hml0 hP hK
  obtain ⟨rfl, hZ, hh⟩ := hP
  exact body p e s m below meth c s₁ Bd.exec Bd.bytes hml0 (findClass_of_methodNamed Bd.named) (name_of_methodNamed Bd.named Bd.method).1 Bd.returns Bd.notSynchronized hZ (Stand.of_body Bd) (by rw [← hh, Bd.state]; rfl)
theorem Met.imp (q : ∀ v h L, Q' v h L → Q v h L) (k : Met l Z y bytes maxL ret rm as' h Q') : Met l Z y bytes maxL ret rm as' h Q := fun ws p e ha hc hk s m args below hf happ hP hK => by
  obtain ⟨n, o, h1, h2, h3, v, L, h4, h5, h6⟩ := k ws p e ha hc hk s m args below hf happ hP hK
  exact ⟨n, o, h1, h2, h3, v, L, h4, q _ _ _ h5, h6⟩
theorem Go.callS (X : Stand p l e R s m args below meth c T locs cells slots) (hx : p.tables.exec = Jvm.exec) (hZ : Z.Warmed39 s.vm) {own : String} {index : Nat} (hown : s.vm.findClass own = some m.cls)
    (w1 : (Jvm.Cond.methodLink own index y).before a0 Z = true) (w2 : (Jvm.Cond.static y).before a0 Z = true) (w3 : (Jvm.Cond.initialized y.cls).before a0 Z = true) (w4 : (Jvm.Cond.code y bytes maxL ret).before a0 Z = true)
    (hy : y.cls ≠ "java/lang/invoke/MethodHandle" ∧ y.cls ≠ "java/lang/invoke/VarHandle") (eT : T.heap = h) {argsL rest st : List Value} (hM : Met l Z y bytes maxL ret rm argsL.toArray h Q')
    (hlen : ∀ sig, parseMethodDescriptor y.desc = some sig → argsL.length = sig.parameters.length) {pc : Nat} {Ls : Array Slot} (hst : st = argsL.reverse ++ rest) (hsz : Ls.size = c.maxLocals) {W : Nat} (hW : 2 * 0 + (rest.map fun v => v.category).sum ≤ W)
    (hd : decode c.code pc = .ok (.invokestatic index, 3)) (hf : rm.frames + 1 ≤ R.frames) (hl : W + (maxL + 11) + rm.locals ≤ R.locals) (hc : cells + rm.cells ≤ R.cells) (hs : slots + rm.slots ≤ R.slots)
    (k : ∀ v T' L, Stand p l e R s m args below meth c T' (locs ++ L) (cells + rm.cells) (slots + rm.slots) → Q' v T'.heap L → GoG p e below F T' (mkF m (pc + 3) Ls (v.toList ++ rest))) :
    GoG p e below F T (mkF m pc Ls st) := by
  subst hst
  obtain ⟨v, _, ⟨T1, L1, k1, n1⟩, -, X1, ⟨Lc, hQ, l1, y1, z1⟩, st1⟩ := Jvm.LawKit.callS X hx (y := y) hown (mvT hZ w1) (mvT hZ w2) (mvT hZ w3) (mvT hZ w4) hy (backOf (W := W) (hM []) hZ w4 w3 hf hl) (g := mkF m pc Ls (argsL.reverse ++ rest)) rfl hsz (argsL := argsL) (rest := rest) hlen rfl hW hd (fun _ _ => ⟨rfl, eT, hc, hs⟩)
  dsimp only [Pt.U, Pt.locs, Pt.cells, Pt.slots] at X1 l1 y1 z1 st1 hQ
  subst l1 y1 z1
  exact Go.back st1 (k v T1 Lc X1 hQ)
theorem Go.callI (X : Stand p l e R s m args below meth c T locs cells slots) (hx : p.tables.exec = Jvm.exec) (hZ : Z.Warmed39 s.vm) {own : String} {index : Nat} (hy1 : y.name = "<init>") (hown : s.vm.findClass own = some m.cls)
    (w1 : (Jvm.Cond.methodLink own index y).before a0 Z = true) (w2 : (Jvm.Cond.instanceMethod y).before a0 Z = true) (w3 : (Jvm.Cond.initialized y.cls).before a0 Z = true) (w4 : (Jvm.Cond.code y bytes maxL none).before a0 Z = true)
    (hy : y.cls ≠ "java/lang/invoke/MethodHandle" ∧ y.cls ≠ "java/lang/invoke/VarHandle") (eT : T.heap = h) {a : Addr} {argsL rest st : List Value} (hM : Met l Z y bytes maxL none rm (.ref a :: argsL).toArray h Q')
    (hlen : ∀ sig, parseMethodDescriptor y.desc = some sig → argsL.length = sig.parameters.length) {pc : Nat} {Ls : Array Slot} (hst : st = argsL.reverse ++ .ref a :: rest) (hsz : Ls.size = c.maxLocals) {W : Nat} (hW : 2 * 0 + (rest.map fun v => v.category).sum ≤ W)
    (hd : decode c.code pc = .ok (.invokespecial index, 3)) (hf : rm.frames + 1 ≤ R.frames) (hl : W + (maxL + 11) + rm.locals ≤ R.locals) (hc : cells + rm.cells ≤ R.cells) (hs : slots + rm.slots ≤ R.slots)
    (k : ∀ v T' L, Stand p l e R s m args below meth c T' (locs ++ L) (cells + rm.cells) (slots + rm.slots) → Q' v T'.heap L → GoG p e below F T' (mkF m (pc + 3) Ls (v.toList ++ rest))) :
    GoG p e below F T (mkF m pc Ls st) := by
  subst hst
  obtain ⟨v, _, ⟨T1, L1, k1, n1⟩, -, X1, ⟨Lc, hQ, l1, y1, z1⟩, st1⟩ := X.specialBack hx (y := y) hy1 hown (mvT hZ w1) (mvT hZ w2) (mvT hZ w4) hy (backOf (W := W) (hM []) hZ w4 w3 hf hl) (g := mkF m pc Ls (argsL.reverse ++ .ref a :: rest)) rfl hsz (Steps.refl _) (a := a) (argsL := argsL) (rest := rest) hlen rfl hW hd (fun _ _ => ⟨rfl, eT, hc, hs⟩)
  dsimp only [Pt.U, Pt.locs, Pt.cells, Pt.slots] at X1 l1 y1 z1 st1 hQ
  subst l1 y1 z1
  exact Go.back (fun _ q => st1.trans q) (k v T1 Lc X1 hQ)
theorem Go.callV (X : Stand p l e R s m args below meth c T locs cells slots) (hx : p.tables.exec = Jvm.exec) (hZ : Z.Warmed39 s.vm) {own C : String} {index : Nat} (hown : s.vm.findClass own = some m.cls)
    (w1 : (Jvm.Cond.methodLink own index y).before a0 Z = true) (w2 : (Jvm.Cond.declares y).before a0 Z = true) (w3 : (Jvm.Cond.selects C y y).before a0 Z = true) (w4 : (Jvm.Cond.instanceMethod y).before a0 Z = true)
    (w5 : (Jvm.Cond.initialized y.cls).before a0 Z = true) (w6 : (Jvm.Cond.code y bytes maxL ret).before a0 Z = true)
    (hy : y.cls ≠ "java/lang/invoke/MethodHandle" ∧ y.cls ≠ "java/lang/invoke/VarHandle") (eT : T.heap = h) {a : Addr} (E : Exa Z h a C) {argsL rest st : List Value} (hM : Met l Z y bytes maxL ret rm (.ref a :: argsL).toArray h Q')
    (hlen : ∀ sig, parseMethodDescriptor y.desc = some sig → argsL.length = sig.parameters.length) {pc : Nat} {Ls : Array Slot} (hst : st = argsL.reverse ++ .ref a :: rest) (hsz : Ls.size = c.maxLocals) {W : Nat} (hW : 2 * 0 + (rest.map fun v => v.category).sum ≤ W)
    (hd : decode c.code pc = .ok (.invokevirtual index, 3)) (hf : rm.frames + 1 ≤ R.frames) (hl : W + (maxL + 11) + rm.locals ≤ R.locals) (hc : cells + rm.cells ≤ R.cells) (hs : slots + rm.slots ≤ R.slots)
    (k : ∀ v T' L, Stand p l e R s m args below meth c T' (locs ++ L) (cells + rm.cells) (slots + rm.slots) → Q' v T'.heap L → GoG p e below F T' (mkF m (pc + 3) Ls (v.toList ++ rest))) :
    GoG p e below F T (mkF m pc Ls st) := by
  subst hst
  obtain ⟨cq, kq, qa, qb, qc⟩ := isOf hZ eT E
  obtain ⟨v, _, ⟨T1, L1, k1, n1⟩, -, X1, ⟨Lc, hQ, l1, y1, z1⟩, st1⟩ := X.virtualBack hx (y := y) (z := y) hown (mvT hZ w1) (mvT hZ w2) (notFace_of_selects (args := #[]) (mvT hZ w3)) (mvT hZ w3) (mvT hZ w4) hy (backOf (W := W) (hM []) hZ w6 w5 hf hl) qa qc (g := mkF m pc Ls (argsL.reverse ++ .ref a :: rest)) rfl hsz (Steps.refl _) (argsL := argsL) (rest := rest) hlen rfl hW hd (fun _ _ => ⟨rfl, eT, hc, hs⟩)
  dsimp only [Pt.U, Pt.locs, Pt.cells, Pt.slots] at X1 l1 y1 z1 st1 hQ
  subst l1 y1 z1
  exact Go.back (fun _ q => st1.trans q) (k v T1 Lc X1 hQ)
end Core
section Cmp
theorem l_lt_t {x y : Int64} (h : x < y) : ifCond.holds .lt (lcmpW x y) = true := (if0 _ _).trans (tlt ((lw_lt x y).mpr h)).1
theorem l_lt_f {x y : Int64} (h : ¬ x < y) : ifCond.holds .lt (lcmpW x y) = false := (if0 _ _).trans (flt (fun q => h ((lw_lt x y).mp q))).1
theorem l_ge_t {x y : Int64} (h : ¬ x < y) : ifCond.holds .ge (lcmpW x y) = true := (if0 _ _).trans (flt (fun q => h ((lw_lt x y).mp q))).2.1
theorem l_ge_f {x y : Int64} (h : x < y) : ifCond.holds .ge (lcmpW x y) = false := (if0 _ _).trans (tlt ((lw_lt x y).mpr h)).2.1
theorem l_gt_t {x y : Int64} (h : y < x) : ifCond.holds .gt (lcmpW x y) = true := (if0 _ _).trans (tlt ((lw_gt x y).mpr h)).2.2.1
theorem l_gt_f {x y : Int64} (h : ¬ y < x) : ifCond.holds .gt (lcmpW x y) = false := (if0 _ _).trans (flt (fun q => h ((lw_gt x y).mp q))).2.2.1
theorem l_le_t {x y : Int64} (h : ¬ y < x) : ifCond.holds .le (lcmpW x y) = true := (if0 _ _).trans (flt (fun q => h ((lw_gt x y).mp q))).2.2.2
theorem l_le_f {x y : Int64} (h : y < x) : ifCond.holds .le (lcmpW x y) = false := (if0 _ _).trans (tlt ((lw_gt x y).mpr h)).2.2.2
theorem l_eq_t {x y : Int64} (h : x = y) : ifCond.holds .eq (lcmpW x y) = true := (if0 _ _).trans (teq ((lw_eq x y).mpr h)).1
theorem l_eq_f {x y : Int64} (h : ¬ x = y) : ifCond.holds .eq (lcmpW x y) = false := (if0 _ _).trans (feq (fun q => h ((lw_eq x y).mp q))).1
theorem l_ne_t {x y : Int64} (h : ¬ x = y) : ifCond.holds .ne (lcmpW x y) = true := (if0 _ _).trans (feq (fun q => h ((lw_eq x y).mp q))).2
theorem l_ne_f {x y : Int64} (h : x = y) : ifCond.holds .ne (lcmpW x y) = false := (if0 _ _).trans (teq ((lw_eq x y).mpr h)).2
end Cmp
end Jvm.OwnKit
namespace Jvm.Pilot.@@N@@
open Jvm Jvm.ClassFile Sem Op Lib Jvm.Free Jvm.Stand Jvm.LawKit Jvm.RoadKit Bundle Jvm.OwnKit Jvm.Pilot.@@N@@.Jvm.D
theorem d1_0 : decode jdk_29_method_65_code 0 = .ok (.iload_n 0, 1) := by decide +kernel
theorem d1_1 : decode jdk_29_method_65_code 1 = .ok (.iload_n 1, 1) := by decide +kernel
theorem d1_2 : decode jdk_29_method_65_code 2 = .ok (.if_icmp .lt 7, 3) := by decide +kernel
theorem d1_5 : decode jdk_29_method_65_code 5 = .ok (.iload_n 0, 1) := by decide +kernel
theorem d1_6 : decode jdk_29_method_65_code 6 = .ok (.goto 4, 3) := by decide +kernel
theorem d1_9 : decode jdk_29_method_65_code 9 = .ok (.iload_n 1, 1) := by decide +kernel
theorem d1_10 : decode jdk_29_method_65_code 10 = .ok (.ireturn, 1) := by decide +kernel
theorem d2_0 : decode prog_3_method_7_code 0 = .ok (.lload_n 0, 1) := by decide +kernel
theorem d2_1 : decode prog_3_method_7_code 1 = .ok (.bipush 32, 2) := by decide +kernel
theorem d2_3 : decode prog_3_method_7_code 3 = .ok (.lushr, 1) := by decide +kernel
theorem d2_4 : decode prog_3_method_7_code 4 = .ok (.iload_n 2, 1) := by decide +kernel
theorem d2_5 : decode prog_3_method_7_code 5 = .ok (.i2l, 1) := by decide +kernel
theorem d2_6 : decode prog_3_method_7_code 6 = .ok (.lmul, 1) := by decide +kernel
theorem d2_7 : decode prog_3_method_7_code 7 = .ok (.bipush 32, 2) := by decide +kernel
theorem d2_9 : decode prog_3_method_7_code 9 = .ok (.lushr, 1) := by decide +kernel
theorem d2_10 : decode prog_3_method_7_code 10 = .ok (.l2i, 1) := by decide +kernel
theorem d2_11 : decode prog_3_method_7_code 11 = .ok (.ireturn, 1) := by decide +kernel
theorem pd_0 : parseMethodDescriptor "(II)I" = some ⟨[.int, .int], some .int⟩ := by decide +kernel
theorem pd_1 : parseMethodDescriptor "(JI)I" = some ⟨[.long, .int], some .int⟩ := by decide +kernel

theorem own_pos (c : Int32) : 0 < (if (1 : Int32) < (c &&& 2147483647) then (c &&& 2147483647) else 1) := by
  split
  · rename_i h; rw [Int32.lt_iff_toInt_lt] at h ⊢; have e : (1 : Int32).toInt = 1 := rfl; have e0 : (0 : Int32).toInt = 0 := rfl; omega
  · decide
def own_hi (f : Int64) : Int64 := (f.toUInt64 >>> ((32 : Int32) &&& 0x3f).toInt64.toUInt64).toInt64
theorem own_hi_eq (f : Int64) : (own_hi f).toInt = f.toInt % 18446744073709551616 / 4294967296 := c_lushr f 32 32 (by decide) (by decide)
theorem own_shl (x : Int64) (h0 : 0 ≤ x.toInt) (h1 : x.toInt < 2147483648) : (x <<< ((32 : Int32) &&& 0x3f).toInt64).toInt = x.toInt * 4294967296 := by
  have q := c_lshl x 32 32 (by decide)
  have r := rng64 (x <<< ((32 : Int32) &&& 0x3f).toInt64)
  have e : ((2 ^ 32 : Nat) : Int) = 4294967296 := by decide
  rw [e] at q
  omega
theorem own_law (f : Int64) (n : Int32) (hn : 0 < n) :
    ¬ (own_hi (own_hi f * n.toInt64)).toInt32 < 0 ∧ (own_hi (own_hi f * n.toInt64)).toInt32 < n ∧
    ¬ (own_hi f * n.toInt64) < (own_hi (own_hi f * n.toInt64)).toInt32.toInt64 <<< ((32 : Int32) &&& 0x3f).toInt64 ∧
    (own_hi f * n.toInt64) < ((own_hi (own_hi f * n.toInt64)).toInt32.toInt64 + 1) <<< ((32 : Int32) &&& 0x3f).toInt64 := by
  have hH := own_hi_eq f
  have rf := rng64 f
  have rn := rng32 n
  have e0 : (0 : Int32).toInt = 0 := rfl
  rw [Int32.lt_iff_toInt_lt, e0] at hn
  have b0 : 0 ≤ (own_hi f).toInt := by omega
  have b1 : (own_hi f).toInt ≤ 4294967295 := by omega
  generalize own_hi f = H at *
  have p0 : 0 ≤ H.toInt * n.toInt := Int.mul_nonneg b0 (by omega)
  have p1 : H.toInt * n.toInt ≤ 4294967295 * n.toInt := Int.mul_le_mul_of_nonneg_right b1 (by omega)
  have hP : (H * n.toInt64).toInt = H.toInt * n.toInt := by
    have q := c_lmul H n.toInt64
    have r := rng64 (H * n.toInt64)
    rw [c_i2l] at q
    omega
  generalize H * n.toInt64 = P at *
  rw [← hP] at p0 p1
  have hQ := own_hi_eq P
  have hr : (own_hi P).toInt32.toInt = P.toInt / 4294967296 := by
    have q := c_l2i (own_hi P)
    have r := rng32 (own_hi P).toInt32
    omega
  generalize (own_hi P).toInt32 = r at *
  have hl : (r.toInt64 <<< ((32 : Int32) &&& 0x3f).toInt64).toInt = r.toInt * 4294967296 := by
    have := own_shl r.toInt64 (by rw [c_i2l]; omega) (by rw [c_i2l]; omega)
    rw [this, c_i2l]
  have h1 : (r.toInt64 + 1).toInt = r.toInt + 1 := by
    have q := c_ladd r.toInt64 1
    have rr := rng64 (r.toInt64 + 1)
    have e : (1 : Int64).toInt = 1 := rfl
    rw [c_i2l, e] at q
    omega
  have hu : ((r.toInt64 + 1) <<< ((32 : Int32) &&& 0x3f).toInt64).toInt = (r.toInt + 1) * 4294967296 := by
    have := own_shl (r.toInt64 + 1) (by omega) (by omega)
    rw [this, h1]
  refine ⟨?_, ?_, ?_, ?_⟩
  · rw [Int32.lt_iff_toInt_lt, e0]; omega
  · rw [Int32.lt_iff_toInt_lt]; omega
  · rw [Int64.lt_iff_toInt_lt, hl]; omega
  · rw [Int64.lt_iff_toInt_lt, hu]; omega

theorem ef_rm1 (m : MethodId) (x0 : Int32) (x1 : Int32) : entryFrame m #[(.int x0), (.int x1)] 2 = mkF m 0 #[.val (.int x0), .val (.int x1)] [] := by first | (simp [entryFrame, mkF, argsToLocals, Value.category]; done) | rfl
set_option maxRecDepth 65536 in
set_option maxHeartbeats 40000000 in
theorem rm1 (l : Launch) (Z : State) (a0 : Array Value) (hw : ∀ d ∈ tables_1, d.before a0 Z = true) (p1 p2 : Int32) (h0 : Heap)  :
    Met l Z (⟨"java/lang/Math", "max", "(II)I"⟩ : MethodName) jdk_29_method_65_code 2 (some .int) ({ frames := 0, cells := 0, slots := 0, locals := 0 } : Room) #[(.int p1), (.int p2)] h0 (fun v h L => v = some (.int (if p1 < p2 then p2 else p1)) ∧ L = [] ∧ h = h0) := by
  refine Met.intro (Jvm.Free.JP.mathPlain rfl (by decide +kernel)) ?_
  intro p e s m below meth c T0 hx hby hml hown hnm hret hlk hZ X0 e0
  refine Go.cast (ef_rm1 m p1 p2) ?_
  refine Go.back (f' := (mkF m 1 #[.val (.int p1), .val (.int p2)] [(.int p1)])) (fun _ k => XS.iloadN X0.here hx rfl (hb hby d1_0) rfl k) ?_
  refine Go.back (f' := (mkF m 2 #[.val (.int p1), .val (.int p2)] [(.int p2), (.int p1)])) (fun _ k => XS.iloadN X0.here hx rfl (hb hby d1_1) rfl k) ?_
  by_cases hc : p1 < p2
  · refine Go.back (f' := (mkF m 9 #[.val (.int p1), .val (.int p2)] [])) (fun _ k => XS.icmpYes X0.here hx rfl (pc0 := 2) (pc' := 9) rfl (hb hby d1_2) rfl (tlt hc).1 (by decide) (by decide) k) ?_
    refine Go.back (f' := (mkF m 10 #[.val (.int p1), .val (.int p2)] [(.int p2)])) (fun _ k => XS.iloadN X0.here hx rfl (hb hby d1_9) rfl k) ?_
    exact Go.retI X0 hx hret hlk (hb hby d1_10) (by (try rw [e0]); exact ⟨by rw [if_pos hc], rfl, rfl⟩) (Nat.zero_le _) (Nat.zero_le _)
  · refine Go.back (f' := (mkF m 5 #[.val (.int p1), .val (.int p2)] [])) (fun _ k => XS.icmpNo X0.here hx rfl (hb hby d1_2) rfl (flt hc).1 k) ?_
    refine Go.back (f' := (mkF m 6 #[.val (.int p1), .val (.int p2)] [(.int p1)])) (fun _ k => XS.iloadN X0.here hx rfl (hb hby d1_5) rfl k) ?_
    refine Go.back (f' := (mkF m 10 #[.val (.int p1), .val (.int p2)] [(.int p1)])) (fun _ k => XS.goto X0.here hx rfl (pc0 := 6) (pc' := 10) rfl (hb hby d1_6) (by decide) (by decide) k) ?_
    exact Go.retI X0 hx hret hlk (hb hby d1_10) (by (try rw [e0]); exact ⟨by rw [if_neg hc], rfl, rfl⟩) (Nat.zero_le _) (Nat.zero_le _)
theorem ef_rm2 (m : MethodId) (x0 : Int64) (x1 : Int32) : entryFrame m #[(.long x0), (.int x1)] 3 = mkF m 0 #[.val (.long x0), .second, .val (.int x1)] [] := by first | (simp [entryFrame, mkF, argsToLocals, Value.category]; done) | rfl
set_option maxRecDepth 65536 in
set_option maxHeartbeats 40000000 in
theorem rm2 (l : Launch) (Z : State) (a0 : Array Value) (hw : ∀ d ∈ tables_1, d.before a0 Z = true) (f : Int64) (n : Int32) (h0 : Heap)  :
    Met l Z (⟨"com/example/balk/balk/CounterTable", "bucketIndex", "(JI)I"⟩ : MethodName) prog_3_method_7_code 3 (some .int) ({ frames := 0, cells := 0, slots := 0, locals := 0 } : Room) #[(.long f), (.int n)] h0 (fun v h L => v = some (.int (own_hi (own_hi f * n.toInt64)).toInt32) ∧ L = [] ∧ h = h0) := by
  refine Met.intro (plainFor_of_name (by first | (simp [plainName, overriddenIn]; done) | decide +kernel)) ?_
  intro p e s m below meth c T0 hx hby hml hown hnm hret hlk hZ X0 e0
  refine Go.cast (ef_rm2 m f n) ?_
  refine Go.back (f' := (mkF m 1 #[.val (.long f), .second, .val (.int n)] [(.long f)])) (fun _ k => XS.lloadN X0.here hx rfl (hb hby d2_0) rfl k) ?_
  refine Go.back (f' := (mkF m 3 #[.val (.long f), .second, .val (.int n)] [(.int (32 : Int32)), (.long f)])) (fun _ k => XS.bipush X0.here hx rfl (hb hby d2_1) k) ?_
  refine Go.back (f' := (mkF m 4 #[.val (.long f), .second, .val (.int n)] [(.long ((f.toUInt64 >>> ((32 : Int32) &&& 0x3f).toInt64.toUInt64).toInt64))])) (fun _ k => XS.lushr X0.here hx rfl (hb hby d2_3) rfl k) ?_
  refine Go.back (f' := (mkF m 5 #[.val (.long f), .second, .val (.int n)] [(.int n), (.long ((f.toUInt64 >>> ((32 : Int32) &&& 0x3f).toInt64.toUInt64).toInt64))])) (fun _ k => XS.iloadN X0.here hx rfl (hb hby d2_4) rfl k) ?_
  refine Go.back (f' := (mkF m 6 #[.val (.long f), .second, .val (.int n)] [(.long (n.toInt64)), (.long ((f.toUInt64 >>> ((32 : Int32) &&& 0x3f).toInt64.toUInt64).toInt64))])) (fun _ k => XS.i2l X0.here hx rfl (hb hby d2_5) rfl k) ?_
  refine Go.back (f' := (mkF m 7 #[.val (.long f), .second, .val (.int n)] [(.long (((f.toUInt64 >>> ((32 : Int32) &&& 0x3f).toInt64.toUInt64).toInt64) * (n.toInt64)))])) (fun _ k => XS.lmul X0.here hx rfl (hb hby d2_6) rfl k) ?_
  refine Go.back (f' := (mkF m 9 #[.val (.long f), .second, .val (.int n)] [(.int (32 : Int32)), (.long (((f.toUInt64 >>> ((32 : Int32) &&& 0x3f).toInt64.toUInt64).toInt64) * (n.toInt64)))])) (fun _ k => XS.bipush X0.here hx rfl (hb hby d2_7) k) ?_
  refine Go.back (f' := (mkF m 10 #[.val (.long f), .second, .val (.int n)] [(.long (((((f.toUInt64 >>> ((32 : Int32) &&& 0x3f).toInt64.toUInt64).toInt64) * (n.toInt64)).toUInt64 >>> ((32 : Int32) &&& 0x3f).toInt64.toUInt64).toInt64))])) (fun _ k => XS.lushr X0.here hx rfl (hb hby d2_9) rfl k) ?_
  refine Go.back (f' := (mkF m 11 #[.val (.long f), .second, .val (.int n)] [(.int ((((((f.toUInt64 >>> ((32 : Int32) &&& 0x3f).toInt64.toUInt64).toInt64) * (n.toInt64)).toUInt64 >>> ((32 : Int32) &&& 0x3f).toInt64.toUInt64).toInt64).toInt32))])) (fun _ k => XS.l2i X0.here hx rfl (hb hby d2_10) rfl k) ?_
  exact Go.retI X0 hx hret hlk (hb hby d2_11) (by (try rw [e0]); exact ⟨rfl, rfl, rfl⟩) (Nat.zero_le _) (Nat.zero_le _)
theorem ef_rm0 (m : MethodId) (x0 : Int64) (x1 : Int32) : entryFrame m #[(.long x0), (.int x1)] maxLocals = mkF m 0 #[.val (.long x0), .second, .val (.int x1), .unset, .unset, .unset, .unset, .unset, .unset, .unset, .unset, .unset, .unset] [] := by first | (simp [entryFrame, mkF, argsToLocals, Value.category, maxLocals]; done) | rfl
set_option maxRecDepth 65536 in
set_option maxHeartbeats 40000000 in
theorem rm0 (l : Launch) (Z : State) (a0 : Array Value) (hw : ∀ d ∈ tables_1, d.before a0 Z = true) (f : Int64) (c0 : Int32) (n0 : Nat) (h0 : Heap)  :
    Met l Z x code maxLocals ret room_1 #[(.long f), (.int c0)] h0 (fun v h L => v = some (.int 1) ∧ Fr n0 L) := by
  refine Met.intro (plainFor_of_name (by first | (simp [plainName, overriddenIn]; done) | decide +kernel)) ?_
  intro p e s m below meth c T0 hx hby hml hown hnm hret hlk hZ X0 e0
  refine Go.cast (ef_rm0 m f c0) ?_
  have hml : c.maxLocals = 13 := hml
  refine Go.back (f' := (mkF m 1 #[.val (.long f), .second, .val (.int c0), .unset, .unset, .unset, .unset, .unset, .unset, .unset, .unset, .unset, .unset] [(.int (1 : Int32))])) (fun _ k => XS.iconst X0.here hx rfl (hb hby at_0) k) ?_
  refine Go.back (f' := (mkF m 2 #[.val (.long f), .second, .val (.int c0), .unset, .unset, .unset, .unset, .unset, .unset, .unset, .unset, .unset, .unset] [(.int c0), (.int (1 : Int32))])) (fun _ k => XS.iloadN X0.here hx rfl (hb hby at_1) rfl k) ?_
  refine Go.back (f' := (mkF m 4 #[.val (.long f), .second, .val (.int c0), .unset, .unset, .unset, .unset, .unset, .unset, .unset, .unset, .unset, .unset] [(.int (2147483647 : Int32)), (.int c0), (.int (1 : Int32))])) (fun _ k => X0.ldcInt hx hown (mvT hZ (hw _ (List.mem_of_getElem? (i := 0) rfl))) (g := (mkF m 2 #[.val (.long f), .second, .val (.int c0), .unset, .unset, .unset, .unset, .unset, .unset, .unset, .unset, .unset, .unset] [(.int c0), (.int (1 : Int32))])) rfl (hb hby at_2) _ k) ?_
  refine Go.back (f' := (mkF m 5 #[.val (.long f), .second, .val (.int c0), .unset, .unset, .unset, .unset, .unset, .unset, .unset, .unset, .unset, .unset] [(.int (c0 &&& (2147483647 : Int32))), (.int (1 : Int32))])) (fun _ k => XS.iand X0.here hx rfl (hb hby at_4) rfl k) ?_
  refine Go.callS X0 hx hZ hown (hw _ (List.mem_of_getElem? (i := 1) rfl)) (hw _ (List.mem_of_getElem? (i := 2) rfl)) (hw _ (List.mem_of_getElem? (i := 3) rfl)) (hw _ (List.mem_of_getElem? (i := 4) rfl)) (by decide) e0 (argsL := [(.int (1 : Int32)), (.int (c0 &&& (2147483647 : Int32)))]) (rest := []) (rm1 l Z a0 hw (1 : Int32) (c0 &&& (2147483647 : Int32)) h0) (lenOf pd_0 rfl) rfl (by rw [hml]; rfl) (W := 0) (Nat.le_of_eq rfl) (hb hby at_5) (by decide) (by decide) (by decide) (by decide) ?_
  intro v1 T1 L1 X1 hQ1
  obtain ⟨rfl, rfl, hh1⟩ := hQ1
  have hn := own_pos c0
  generalize (if (1 : Int32) < (c0 &&& 2147483647) then (c0 &&& 2147483647) else (1 : Int32)) = n at hn ⊢
  show GoG _ _ _ _ _ (mkF m 8 #[.val (.long f), .second, .val (.int c0), .unset, .unset, .unset, .unset, .unset, .unset, .unset, .unset, .unset, .unset] [(.int n)])
  refine Go.back (f' := (mkF m 9 #[.val (.long f), .second, .val (.int c0), .val (.int n), .unset, .unset, .unset, .unset, .unset, .unset, .unset, .unset, .unset] [])) (fun _ k => XS.istoreN X1.here hx rfl (hb hby at_8) rfl (l' := #[.val (.long f), .second, .val (.int c0), .val (.int n), .unset, .unset, .unset, .unset, .unset, .unset, .unset, .unset, .unset]) rfl k) ?_
  refine Go.back (f' := (mkF m 10 #[.val (.long f), .second, .val (.int c0), .val (.int n), .unset, .unset, .unset, .unset, .unset, .unset, .unset, .unset, .unset] [(.long f)])) (fun _ k => XS.lloadN X1.here hx rfl (hb hby at_9) rfl k) ?_
  refine Go.back (f' := (mkF m 11 #[.val (.long f), .second, .val (.int c0), .val (.int n), .unset, .unset, .unset, .unset, .unset, .unset, .unset, .unset, .unset] [(.int n), (.long f)])) (fun _ k => XS.iloadN X1.here hx rfl (hb hby at_10) rfl k) ?_
  refine Go.callS X1 hx hZ hown (hw _ (List.mem_of_getElem? (i := 5) rfl)) (hw _ (List.mem_of_getElem? (i := 6) rfl)) (hw _ (List.mem_of_getElem? (i := 7) rfl)) (hw _ (List.mem_of_getElem? (i := 8) rfl)) (by decide) hh1 (argsL := [(.long f), (.int n)]) (rest := []) (rm2 l Z a0 hw f n h0) (lenOf pd_1 rfl) rfl (by rw [hml]; rfl) (W := 0) (Nat.le_of_eq rfl) (hb hby at_11) (by decide) (by decide) (by decide) (by decide) ?_
  intro v2 T2 L2 X2 hQ2
  obtain ⟨rfl, rfl, hh2⟩ := hQ2
  obtain ⟨k1, k2, k3, k4⟩ := own_law f n hn
  show GoG _ _ _ _ _ (mkF m 14 #[.val (.long f), .second, .val (.int c0), .val (.int n), .unset, .unset, .unset, .unset, .unset, .unset, .unset, .unset, .unset] [(.int (own_hi (own_hi f * n.toInt64)).toInt32)])
  refine Go.back (f' := (mkF m 16 #[.val (.long f), .second, .val (.int c0), .val (.int n), .val (.int (own_hi (own_hi f * n.toInt64)).toInt32), .unset, .unset, .unset, .unset, .unset, .unset, .unset, .unset] [])) (fun _ k => XS.istore X2.here hx rfl (hb hby at_14) rfl (l' := #[.val (.long f), .second, .val (.int c0), .val (.int n), .val (.int (own_hi (own_hi f * n.toInt64)).toInt32), .unset, .unset, .unset, .unset, .unset, .unset, .unset, .unset]) rfl k) ?_
  refine Go.back (f' := (mkF m 18 #[.val (.long f), .second, .val (.int c0), .val (.int n), .val (.int (own_hi (own_hi f * n.toInt64)).toInt32), .unset, .unset, .unset, .unset, .unset, .unset, .unset, .unset] [(.int (own_hi (own_hi f * n.toInt64)).toInt32)])) (fun _ k => XS.iload X2.here hx rfl (hb hby at_16) rfl k) ?_
  refine Go.back (f' := (mkF m 21 #[.val (.long f), .second, .val (.int c0), .val (.int n), .val (.int (own_hi (own_hi f * n.toInt64)).toInt32), .unset, .unset, .unset, .unset, .unset, .unset, .unset, .unset] [])) (fun _ k => XS.ifNo X2.here hx rfl (hb hby at_18) rfl ((if0 _ _).trans (flt k1).1) k) ?_
  refine Go.back (f' := (mkF m 23 #[.val (.long f), .second, .val (.int c0), .val (.int n), .val (.int (own_hi (own_hi f * n.toInt64)).toInt32), .unset, .unset, .unset, .unset, .unset, .unset, .unset, .unset] [(.int (own_hi (own_hi f * n.toInt64)).toInt32)])) (fun _ k => XS.iload X2.here hx rfl (hb hby at_21) rfl k) ?_
  refine Go.back (f' := (mkF m 24 #[.val (.long f), .second, .val (.int c0), .val (.int n), .val (.int (own_hi (own_hi f * n.toInt64)).toInt32), .unset, .unset, .unset, .unset, .unset, .unset, .unset, .unset] [(.int n), (.int (own_hi (own_hi f * n.toInt64)).toInt32)])) (fun _ k => XS.iloadN X2.here hx rfl (hb hby at_23) rfl k) ?_
  refine Go.back (f' := (mkF m 29 #[.val (.long f), .second, .val (.int c0), .val (.int n), .val (.int (own_hi (own_hi f * n.toInt64)).toInt32), .unset, .unset, .unset, .unset, .unset, .unset, .unset, .unset] [])) (fun _ k => XS.icmpYes X2.here hx rfl (pc0 := 24) (pc' := 29) rfl (hb hby at_24) rfl (tlt k2).1 (by decide) (by decide) k) ?_
  refine Go.back (f' := (mkF m 30 #[.val (.long f), .second, .val (.int c0), .val (.int n), .val (.int (own_hi (own_hi f * n.toInt64)).toInt32), .unset, .unset, .unset, .unset, .unset, .unset, .unset, .unset] [(.long f)])) (fun _ k => XS.lloadN X2.here hx rfl (hb hby at_29) rfl k) ?_
  refine Go.back (f' := (mkF m 32 #[.val (.long f), .second, .val (.int c0), .val (.int n), .val (.int (own_hi (own_hi f * n.toInt64)).toInt32), .unset, .unset, .unset, .unset, .unset, .unset, .unset, .unset] [(.int (32 : Int32)), (.long f)])) (fun _ k => XS.bipush X2.here hx rfl (hb hby at_30) k) ?_
  refine Go.back (f' := (mkF m 33 #[.val (.long f), .second, .val (.int c0), .val (.int n), .val (.int (own_hi (own_hi f * n.toInt64)).toInt32), .unset, .unset, .unset, .unset, .unset, .unset, .unset, .unset] [(.long ((f.toUInt64 >>> ((32 : Int32) &&& 0x3f).toInt64.toUInt64).toInt64))])) (fun _ k => XS.lushr X2.here hx rfl (hb hby at_32) rfl k) ?_
  refine Go.back (f' := (mkF m 35 #[.val (.long f), .second, .val (.int c0), .val (.int n), .val (.int (own_hi (own_hi f * n.toInt64)).toInt32), .val (.long ((f.toUInt64 >>> ((32 : Int32) &&& 0x3f).toInt64.toUInt64).toInt64)), .second, .unset, .unset, .unset, .unset, .unset, .unset] [])) (fun _ k => XS.lstore X2.here hx rfl (hb hby at_33) rfl (l' := #[.val (.long f), .second, .val (.int c0), .val (.int n), .val (.int (own_hi (own_hi f * n.toInt64)).toInt32), .val (.long ((f.toUInt64 >>> ((32 : Int32) &&& 0x3f).toInt64.toUInt64).toInt64)), .second, .unset, .unset, .unset, .unset, .unset, .unset]) rfl k) ?_
  refine Go.back (f' := (mkF m 37 #[.val (.long f), .second, .val (.int c0), .val (.int n), .val (.int (own_hi (own_hi f * n.toInt64)).toInt32), .val (.long ((f.toUInt64 >>> ((32 : Int32) &&& 0x3f).toInt64.toUInt64).toInt64)), .second, .unset, .unset, .unset, .unset, .unset, .unset] [(.long ((f.toUInt64 >>> ((32 : Int32) &&& 0x3f).toInt64.toUInt64).toInt64))])) (fun _ k => XS.lload X2.here hx rfl (hb hby at_35) rfl k) ?_
  refine Go.back (f' := (mkF m 38 #[.val (.long f), .second, .val (.int c0), .val (.int n), .val (.int (own_hi (own_hi f * n.toInt64)).toInt32), .val (.long ((f.toUInt64 >>> ((32 : Int32) &&& 0x3f).toInt64.toUInt64).toInt64)), .second, .unset, .unset, .unset, .unset, .unset, .unset] [(.int n), (.long ((f.toUInt64 >>> ((32 : Int32) &&& 0x3f).toInt64.toUInt64).toInt64))])) (fun _ k => XS.iloadN X2.here hx rfl (hb hby at_37) rfl k) ?_
  refine Go.back (f' := (mkF m 39 #[.val (.long f), .second, .val (.int c0), .val (.int n), .val (.int (own_hi (own_hi f * n.toInt64)).toInt32), .val (.long ((f.toUInt64 >>> ((32 : Int32) &&& 0x3f).toInt64.toUInt64).toInt64)), .second, .unset, .unset, .unset, .unset, .unset, .unset] [(.long (n.toInt64)), (.long ((f.toUInt64 >>> ((32 : Int32) &&& 0x3f).toInt64.toUInt64).toInt64))])) (fun _ k => XS.i2l X2.here hx rfl (hb hby at_38) rfl k) ?_
  refine Go.back (f' := (mkF m 40 #[.val (.long f), .second, .val (.int c0), .val (.int n), .val (.int (own_hi (own_hi f * n.toInt64)).toInt32), .val (.long ((f.toUInt64 >>> ((32 : Int32) &&& 0x3f).toInt64.toUInt64).toInt64)), .second, .unset, .unset, .unset, .unset, .unset, .unset] [(.long (((f.toUInt64 >>> ((32 : Int32) &&& 0x3f).toInt64.toUInt64).toInt64) * (n.toInt64)))])) (fun _ k => XS.lmul X2.here hx rfl (hb hby at_39) rfl k) ?_
  refine Go.back (f' := (mkF m 42 #[.val (.long f), .second, .val (.int c0), .val (.int n), .val (.int (own_hi (own_hi f * n.toInt64)).toInt32), .val (.long ((f.toUInt64 >>> ((32 : Int32) &&& 0x3f).toInt64.toUInt64).toInt64)), .second, .val (.long (((f.toUInt64 >>> ((32 : Int32) &&& 0x3f).toInt64.toUInt64).toInt64) * (n.toInt64))), .second, .unset, .unset, .unset, .unset] [])) (fun _ k => XS.lstore X2.here hx rfl (hb hby at_40) rfl (l' := #[.val (.long f), .second, .val (.int c0), .val (.int n), .val (.int (own_hi (own_hi f * n.toInt64)).toInt32), .val (.long ((f.toUInt64 >>> ((32 : Int32) &&& 0x3f).toInt64.toUInt64).toInt64)), .second, .val (.long (((f.toUInt64 >>> ((32 : Int32) &&& 0x3f).toInt64.toUInt64).toInt64) * (n.toInt64))), .second, .unset, .unset, .unset, .unset]) rfl k) ?_
  refine Go.back (f' := (mkF m 44 #[.val (.long f), .second, .val (.int c0), .val (.int n), .val (.int (own_hi (own_hi f * n.toInt64)).toInt32), .val (.long ((f.toUInt64 >>> ((32 : Int32) &&& 0x3f).toInt64.toUInt64).toInt64)), .second, .val (.long (((f.toUInt64 >>> ((32 : Int32) &&& 0x3f).toInt64.toUInt64).toInt64) * (n.toInt64))), .second, .unset, .unset, .unset, .unset] [(.int (own_hi (own_hi f * n.toInt64)).toInt32)])) (fun _ k => XS.iload X2.here hx rfl (hb hby at_42) rfl k) ?_
  refine Go.back (f' := (mkF m 45 #[.val (.long f), .second, .val (.int c0), .val (.int n), .val (.int (own_hi (own_hi f * n.toInt64)).toInt32), .val (.long ((f.toUInt64 >>> ((32 : Int32) &&& 0x3f).toInt64.toUInt64).toInt64)), .second, .val (.long (((f.toUInt64 >>> ((32 : Int32) &&& 0x3f).toInt64.toUInt64).toInt64) * (n.toInt64))), .second, .unset, .unset, .unset, .unset] [(.long ((own_hi (own_hi f * n.toInt64)).toInt32.toInt64))])) (fun _ k => XS.i2l X2.here hx rfl (hb hby at_44) rfl k) ?_
  refine Go.back (f' := (mkF m 47 #[.val (.long f), .second, .val (.int c0), .val (.int n), .val (.int (own_hi (own_hi f * n.toInt64)).toInt32), .val (.long ((f.toUInt64 >>> ((32 : Int32) &&& 0x3f).toInt64.toUInt64).toInt64)), .second, .val (.long (((f.toUInt64 >>> ((32 : Int32) &&& 0x3f).toInt64.toUInt64).toInt64) * (n.toInt64))), .second, .unset, .unset, .unset, .unset] [(.int (32 : Int32)), (.long ((own_hi (own_hi f * n.toInt64)).toInt32.toInt64))])) (fun _ k => XS.bipush X2.here hx rfl (hb hby at_45) k) ?_
  refine Go.back (f' := (mkF m 48 #[.val (.long f), .second, .val (.int c0), .val (.int n), .val (.int (own_hi (own_hi f * n.toInt64)).toInt32), .val (.long ((f.toUInt64 >>> ((32 : Int32) &&& 0x3f).toInt64.toUInt64).toInt64)), .second, .val (.long (((f.toUInt64 >>> ((32 : Int32) &&& 0x3f).toInt64.toUInt64).toInt64) * (n.toInt64))), .second, .unset, .unset, .unset, .unset] [(.long (((own_hi (own_hi f * n.toInt64)).toInt32.toInt64) <<< ((32 : Int32) &&& 0x3f).toInt64))])) (fun _ k => XS.lshl X2.here hx rfl (hb hby at_47) rfl k) ?_
  refine Go.back (f' := (mkF m 50 #[.val (.long f), .second, .val (.int c0), .val (.int n), .val (.int (own_hi (own_hi f * n.toInt64)).toInt32), .val (.long ((f.toUInt64 >>> ((32 : Int32) &&& 0x3f).toInt64.toUInt64).toInt64)), .second, .val (.long (((f.toUInt64 >>> ((32 : Int32) &&& 0x3f).toInt64.toUInt64).toInt64) * (n.toInt64))), .second, .val (.long (((own_hi (own_hi f * n.toInt64)).toInt32.toInt64) <<< ((32 : Int32) &&& 0x3f).toInt64)), .second, .unset, .unset] [])) (fun _ k => XS.lstore X2.here hx rfl (hb hby at_48) rfl (l' := #[.val (.long f), .second, .val (.int c0), .val (.int n), .val (.int (own_hi (own_hi f * n.toInt64)).toInt32), .val (.long ((f.toUInt64 >>> ((32 : Int32) &&& 0x3f).toInt64.toUInt64).toInt64)), .second, .val (.long (((f.toUInt64 >>> ((32 : Int32) &&& 0x3f).toInt64.toUInt64).toInt64) * (n.toInt64))), .second, .val (.long (((own_hi (own_hi f * n.toInt64)).toInt32.toInt64) <<< ((32 : Int32) &&& 0x3f).toInt64)), .second, .unset, .unset]) rfl k) ?_
  refine Go.back (f' := (mkF m 52 #[.val (.long f), .second, .val (.int c0), .val (.int n), .val (.int (own_hi (own_hi f * n.toInt64)).toInt32), .val (.long ((f.toUInt64 >>> ((32 : Int32) &&& 0x3f).toInt64.toUInt64).toInt64)), .second, .val (.long (((f.toUInt64 >>> ((32 : Int32) &&& 0x3f).toInt64.toUInt64).toInt64) * (n.toInt64))), .second, .val (.long (((own_hi (own_hi f * n.toInt64)).toInt32.toInt64) <<< ((32 : Int32) &&& 0x3f).toInt64)), .second, .unset, .unset] [(.int (own_hi (own_hi f * n.toInt64)).toInt32)])) (fun _ k => XS.iload X2.here hx rfl (hb hby at_50) rfl k) ?_
  refine Go.back (f' := (mkF m 53 #[.val (.long f), .second, .val (.int c0), .val (.int n), .val (.int (own_hi (own_hi f * n.toInt64)).toInt32), .val (.long ((f.toUInt64 >>> ((32 : Int32) &&& 0x3f).toInt64.toUInt64).toInt64)), .second, .val (.long (((f.toUInt64 >>> ((32 : Int32) &&& 0x3f).toInt64.toUInt64).toInt64) * (n.toInt64))), .second, .val (.long (((own_hi (own_hi f * n.toInt64)).toInt32.toInt64) <<< ((32 : Int32) &&& 0x3f).toInt64)), .second, .unset, .unset] [(.long ((own_hi (own_hi f * n.toInt64)).toInt32.toInt64))])) (fun _ k => XS.i2l X2.here hx rfl (hb hby at_52) rfl k) ?_
  refine Go.back (f' := (mkF m 54 #[.val (.long f), .second, .val (.int c0), .val (.int n), .val (.int (own_hi (own_hi f * n.toInt64)).toInt32), .val (.long ((f.toUInt64 >>> ((32 : Int32) &&& 0x3f).toInt64.toUInt64).toInt64)), .second, .val (.long (((f.toUInt64 >>> ((32 : Int32) &&& 0x3f).toInt64.toUInt64).toInt64) * (n.toInt64))), .second, .val (.long (((own_hi (own_hi f * n.toInt64)).toInt32.toInt64) <<< ((32 : Int32) &&& 0x3f).toInt64)), .second, .unset, .unset] [(.long (1 : Int64)), (.long ((own_hi (own_hi f * n.toInt64)).toInt32.toInt64))])) (fun _ k => XS.lconst X2.here hx rfl (hb hby at_53) k) ?_
  refine Go.back (f' := (mkF m 55 #[.val (.long f), .second, .val (.int c0), .val (.int n), .val (.int (own_hi (own_hi f * n.toInt64)).toInt32), .val (.long ((f.toUInt64 >>> ((32 : Int32) &&& 0x3f).toInt64.toUInt64).toInt64)), .second, .val (.long (((f.toUInt64 >>> ((32 : Int32) &&& 0x3f).toInt64.toUInt64).toInt64) * (n.toInt64))), .second, .val (.long (((own_hi (own_hi f * n.toInt64)).toInt32.toInt64) <<< ((32 : Int32) &&& 0x3f).toInt64)), .second, .unset, .unset] [(.long (((own_hi (own_hi f * n.toInt64)).toInt32.toInt64) + (1 : Int64)))])) (fun _ k => XS.ladd X2.here hx rfl (hb hby at_54) rfl k) ?_
  refine Go.back (f' := (mkF m 57 #[.val (.long f), .second, .val (.int c0), .val (.int n), .val (.int (own_hi (own_hi f * n.toInt64)).toInt32), .val (.long ((f.toUInt64 >>> ((32 : Int32) &&& 0x3f).toInt64.toUInt64).toInt64)), .second, .val (.long (((f.toUInt64 >>> ((32 : Int32) &&& 0x3f).toInt64.toUInt64).toInt64) * (n.toInt64))), .second, .val (.long (((own_hi (own_hi f * n.toInt64)).toInt32.toInt64) <<< ((32 : Int32) &&& 0x3f).toInt64)), .second, .unset, .unset] [(.int (32 : Int32)), (.long (((own_hi (own_hi f * n.toInt64)).toInt32.toInt64) + (1 : Int64)))])) (fun _ k => XS.bipush X2.here hx rfl (hb hby at_55) k) ?_
  refine Go.back (f' := (mkF m 58 #[.val (.long f), .second, .val (.int c0), .val (.int n), .val (.int (own_hi (own_hi f * n.toInt64)).toInt32), .val (.long ((f.toUInt64 >>> ((32 : Int32) &&& 0x3f).toInt64.toUInt64).toInt64)), .second, .val (.long (((f.toUInt64 >>> ((32 : Int32) &&& 0x3f).toInt64.toUInt64).toInt64) * (n.toInt64))), .second, .val (.long (((own_hi (own_hi f * n.toInt64)).toInt32.toInt64) <<< ((32 : Int32) &&& 0x3f).toInt64)), .second, .unset, .unset] [(.long ((((own_hi (own_hi f * n.toInt64)).toInt32.toInt64) + (1 : Int64)) <<< ((32 : Int32) &&& 0x3f).toInt64))])) (fun _ k => XS.lshl X2.here hx rfl (hb hby at_57) rfl k) ?_
  refine Go.back (f' := (mkF m 60 #[.val (.long f), .second, .val (.int c0), .val (.int n), .val (.int (own_hi (own_hi f * n.toInt64)).toInt32), .val (.long ((f.toUInt64 >>> ((32 : Int32) &&& 0x3f).toInt64.toUInt64).toInt64)), .second, .val (.long (((f.toUInt64 >>> ((32 : Int32) &&& 0x3f).toInt64.toUInt64).toInt64) * (n.toInt64))), .second, .val (.long (((own_hi (own_hi f * n.toInt64)).toInt32.toInt64) <<< ((32 : Int32) &&& 0x3f).toInt64)), .second, .val (.long ((((own_hi (own_hi f * n.toInt64)).toInt32.toInt64) + (1 : Int64)) <<< ((32 : Int32) &&& 0x3f).toInt64)), .second] [])) (fun _ k => XS.lstore X2.here hx rfl (hb hby at_58) rfl (l' := #[.val (.long f), .second, .val (.int c0), .val (.int n), .val (.int (own_hi (own_hi f * n.toInt64)).toInt32), .val (.long ((f.toUInt64 >>> ((32 : Int32) &&& 0x3f).toInt64.toUInt64).toInt64)), .second, .val (.long (((f.toUInt64 >>> ((32 : Int32) &&& 0x3f).toInt64.toUInt64).toInt64) * (n.toInt64))), .second, .val (.long (((own_hi (own_hi f * n.toInt64)).toInt32.toInt64) <<< ((32 : Int32) &&& 0x3f).toInt64)), .second, .val (.long ((((own_hi (own_hi f * n.toInt64)).toInt32.toInt64) + (1 : Int64)) <<< ((32 : Int32) &&& 0x3f).toInt64)), .second]) rfl k) ?_
  refine Go.back (f' := (mkF m 62 #[.val (.long f), .second, .val (.int c0), .val (.int n), .val (.int (own_hi (own_hi f * n.toInt64)).toInt32), .val (.long ((f.toUInt64 >>> ((32 : Int32) &&& 0x3f).toInt64.toUInt64).toInt64)), .second, .val (.long (((f.toUInt64 >>> ((32 : Int32) &&& 0x3f).toInt64.toUInt64).toInt64) * (n.toInt64))), .second, .val (.long (((own_hi (own_hi f * n.toInt64)).toInt32.toInt64) <<< ((32 : Int32) &&& 0x3f).toInt64)), .second, .val (.long ((((own_hi (own_hi f * n.toInt64)).toInt32.toInt64) + (1 : Int64)) <<< ((32 : Int32) &&& 0x3f).toInt64)), .second] [(.long (((own_hi (own_hi f * n.toInt64)).toInt32.toInt64) <<< ((32 : Int32) &&& 0x3f).toInt64))])) (fun _ k => XS.lload X2.here hx rfl (hb hby at_60) rfl k) ?_
  refine Go.back (f' := (mkF m 64 #[.val (.long f), .second, .val (.int c0), .val (.int n), .val (.int (own_hi (own_hi f * n.toInt64)).toInt32), .val (.long ((f.toUInt64 >>> ((32 : Int32) &&& 0x3f).toInt64.toUInt64).toInt64)), .second, .val (.long (((f.toUInt64 >>> ((32 : Int32) &&& 0x3f).toInt64.toUInt64).toInt64) * (n.toInt64))), .second, .val (.long (((own_hi (own_hi f * n.toInt64)).toInt32.toInt64) <<< ((32 : Int32) &&& 0x3f).toInt64)), .second, .val (.long ((((own_hi (own_hi f * n.toInt64)).toInt32.toInt64) + (1 : Int64)) <<< ((32 : Int32) &&& 0x3f).toInt64)), .second] [(.long (((f.toUInt64 >>> ((32 : Int32) &&& 0x3f).toInt64.toUInt64).toInt64) * (n.toInt64))), (.long (((own_hi (own_hi f * n.toInt64)).toInt32.toInt64) <<< ((32 : Int32) &&& 0x3f).toInt64))])) (fun _ k => XS.lload X2.here hx rfl (hb hby at_62) rfl k) ?_
  refine Go.back (f' := (mkF m 65 #[.val (.long f), .second, .val (.int c0), .val (.int n), .val (.int (own_hi (own_hi f * n.toInt64)).toInt32), .val (.long ((f.toUInt64 >>> ((32 : Int32) &&& 0x3f).toInt64.toUInt64).toInt64)), .second, .val (.long (((f.toUInt64 >>> ((32 : Int32) &&& 0x3f).toInt64.toUInt64).toInt64) * (n.toInt64))), .second, .val (.long (((own_hi (own_hi f * n.toInt64)).toInt32.toInt64) <<< ((32 : Int32) &&& 0x3f).toInt64)), .second, .val (.long ((((own_hi (own_hi f * n.toInt64)).toInt32.toInt64) + (1 : Int64)) <<< ((32 : Int32) &&& 0x3f).toInt64)), .second] [(.int (lcmpW (((own_hi (own_hi f * n.toInt64)).toInt32.toInt64) <<< ((32 : Int32) &&& 0x3f).toInt64) (((f.toUInt64 >>> ((32 : Int32) &&& 0x3f).toInt64.toUInt64).toInt64) * (n.toInt64))))])) (fun _ k => XS.lcmp X2.here hx rfl (hb hby at_64) rfl k) ?_
  refine Go.back (f' := (mkF m 68 #[.val (.long f), .second, .val (.int c0), .val (.int n), .val (.int (own_hi (own_hi f * n.toInt64)).toInt32), .val (.long ((f.toUInt64 >>> ((32 : Int32) &&& 0x3f).toInt64.toUInt64).toInt64)), .second, .val (.long (((f.toUInt64 >>> ((32 : Int32) &&& 0x3f).toInt64.toUInt64).toInt64) * (n.toInt64))), .second, .val (.long (((own_hi (own_hi f * n.toInt64)).toInt32.toInt64) <<< ((32 : Int32) &&& 0x3f).toInt64)), .second, .val (.long ((((own_hi (own_hi f * n.toInt64)).toInt32.toInt64) + (1 : Int64)) <<< ((32 : Int32) &&& 0x3f).toInt64)), .second] [])) (fun _ k => XS.ifNo X2.here hx rfl (hb hby at_65) rfl (l_gt_f k3) k) ?_
  refine Go.back (f' := (mkF m 70 #[.val (.long f), .second, .val (.int c0), .val (.int n), .val (.int (own_hi (own_hi f * n.toInt64)).toInt32), .val (.long ((f.toUInt64 >>> ((32 : Int32) &&& 0x3f).toInt64.toUInt64).toInt64)), .second, .val (.long (((f.toUInt64 >>> ((32 : Int32) &&& 0x3f).toInt64.toUInt64).toInt64) * (n.toInt64))), .second, .val (.long (((own_hi (own_hi f * n.toInt64)).toInt32.toInt64) <<< ((32 : Int32) &&& 0x3f).toInt64)), .second, .val (.long ((((own_hi (own_hi f * n.toInt64)).toInt32.toInt64) + (1 : Int64)) <<< ((32 : Int32) &&& 0x3f).toInt64)), .second] [(.long (((f.toUInt64 >>> ((32 : Int32) &&& 0x3f).toInt64.toUInt64).toInt64) * (n.toInt64)))])) (fun _ k => XS.lload X2.here hx rfl (hb hby at_68) rfl k) ?_
  refine Go.back (f' := (mkF m 72 #[.val (.long f), .second, .val (.int c0), .val (.int n), .val (.int (own_hi (own_hi f * n.toInt64)).toInt32), .val (.long ((f.toUInt64 >>> ((32 : Int32) &&& 0x3f).toInt64.toUInt64).toInt64)), .second, .val (.long (((f.toUInt64 >>> ((32 : Int32) &&& 0x3f).toInt64.toUInt64).toInt64) * (n.toInt64))), .second, .val (.long (((own_hi (own_hi f * n.toInt64)).toInt32.toInt64) <<< ((32 : Int32) &&& 0x3f).toInt64)), .second, .val (.long ((((own_hi (own_hi f * n.toInt64)).toInt32.toInt64) + (1 : Int64)) <<< ((32 : Int32) &&& 0x3f).toInt64)), .second] [(.long ((((own_hi (own_hi f * n.toInt64)).toInt32.toInt64) + (1 : Int64)) <<< ((32 : Int32) &&& 0x3f).toInt64)), (.long (((f.toUInt64 >>> ((32 : Int32) &&& 0x3f).toInt64.toUInt64).toInt64) * (n.toInt64)))])) (fun _ k => XS.lload X2.here hx rfl (hb hby at_70) rfl k) ?_
  refine Go.back (f' := (mkF m 73 #[.val (.long f), .second, .val (.int c0), .val (.int n), .val (.int (own_hi (own_hi f * n.toInt64)).toInt32), .val (.long ((f.toUInt64 >>> ((32 : Int32) &&& 0x3f).toInt64.toUInt64).toInt64)), .second, .val (.long (((f.toUInt64 >>> ((32 : Int32) &&& 0x3f).toInt64.toUInt64).toInt64) * (n.toInt64))), .second, .val (.long (((own_hi (own_hi f * n.toInt64)).toInt32.toInt64) <<< ((32 : Int32) &&& 0x3f).toInt64)), .second, .val (.long ((((own_hi (own_hi f * n.toInt64)).toInt32.toInt64) + (1 : Int64)) <<< ((32 : Int32) &&& 0x3f).toInt64)), .second] [(.int (lcmpW (((f.toUInt64 >>> ((32 : Int32) &&& 0x3f).toInt64.toUInt64).toInt64) * (n.toInt64)) ((((own_hi (own_hi f * n.toInt64)).toInt32.toInt64) + (1 : Int64)) <<< ((32 : Int32) &&& 0x3f).toInt64)))])) (fun _ k => XS.lcmp X2.here hx rfl (hb hby at_72) rfl k) ?_
  refine Go.back (f' := (mkF m 76 #[.val (.long f), .second, .val (.int c0), .val (.int n), .val (.int (own_hi (own_hi f * n.toInt64)).toInt32), .val (.long ((f.toUInt64 >>> ((32 : Int32) &&& 0x3f).toInt64.toUInt64).toInt64)), .second, .val (.long (((f.toUInt64 >>> ((32 : Int32) &&& 0x3f).toInt64.toUInt64).toInt64) * (n.toInt64))), .second, .val (.long (((own_hi (own_hi f * n.toInt64)).toInt32.toInt64) <<< ((32 : Int32) &&& 0x3f).toInt64)), .second, .val (.long ((((own_hi (own_hi f * n.toInt64)).toInt32.toInt64) + (1 : Int64)) <<< ((32 : Int32) &&& 0x3f).toInt64)), .second] [])) (fun _ k => XS.ifNo X2.here hx rfl (hb hby at_73) rfl (l_ge_f k4) k) ?_
  refine Go.back (f' := (mkF m 77 #[.val (.long f), .second, .val (.int c0), .val (.int n), .val (.int (own_hi (own_hi f * n.toInt64)).toInt32), .val (.long ((f.toUInt64 >>> ((32 : Int32) &&& 0x3f).toInt64.toUInt64).toInt64)), .second, .val (.long (((f.toUInt64 >>> ((32 : Int32) &&& 0x3f).toInt64.toUInt64).toInt64) * (n.toInt64))), .second, .val (.long (((own_hi (own_hi f * n.toInt64)).toInt32.toInt64) <<< ((32 : Int32) &&& 0x3f).toInt64)), .second, .val (.long ((((own_hi (own_hi f * n.toInt64)).toInt32.toInt64) + (1 : Int64)) <<< ((32 : Int32) &&& 0x3f).toInt64)), .second] [(.int (1 : Int32))])) (fun _ k => XS.iconst X2.here hx rfl (hb hby at_76) k) ?_
  refine Go.back (f' := (mkF m 81 #[.val (.long f), .second, .val (.int c0), .val (.int n), .val (.int (own_hi (own_hi f * n.toInt64)).toInt32), .val (.long ((f.toUInt64 >>> ((32 : Int32) &&& 0x3f).toInt64.toUInt64).toInt64)), .second, .val (.long (((f.toUInt64 >>> ((32 : Int32) &&& 0x3f).toInt64.toUInt64).toInt64) * (n.toInt64))), .second, .val (.long (((own_hi (own_hi f * n.toInt64)).toInt32.toInt64) <<< ((32 : Int32) &&& 0x3f).toInt64)), .second, .val (.long ((((own_hi (own_hi f * n.toInt64)).toInt32.toInt64) + (1 : Int64)) <<< ((32 : Int32) &&& 0x3f).toInt64)), .second] [(.int (1 : Int32))])) (fun _ k => XS.goto X2.here hx rfl (pc0 := 77) (pc' := 81) rfl (hb hby at_77) (by decide) (by decide) k) ?_
  exact Go.retN X2 hx (t := .boolean) hret (by simp) (w := (1 : Int32)) rfl hlk (hb hby at_81) (by (try rw [hh2]); exact ⟨rfl, Fr.nil _⟩) (Nat.zero_le _) (Nat.zero_le _)
set_option maxRecDepth 65536 in
set_option maxHeartbeats 40000000 in
theorem comes_1 {Post : Tables → Env → Array Value → State → Outcome → State → Prop} (hpost : ∀ tb e args s v u, (limb_1_1.after args s (.returned v) u = true ∧ limb_1_2.after args s (.returned v) u = true ∧ True) → FrameEnd s (.returned v) u (Jvm.fieldLocs frame_1_writes args s ++ Jvm.arrayLocs frame_1_arrays args s ++ Jvm.staticLocs frame_1_statics s) 0 0 → Post tb e args s (.returned v) u) :
    ArmFor flags0 classFile x code maxLocals ret World_1 tables_1 room_1 Calls_1 rest_1 Pre_1 Post := by
  intro l hfl _ _ p e ha hc hk s m args below hf hA hF happ hP
  obtain ⟨hcalls, hrest, hpre⟩ := hP
  obtain ⟨-, -, -, hnamed, -, -, -, hat⟩ := (Spec.applies_iff hf).mp happ
  obtain ⟨hg, hn⟩ := and_e (Cond.before_iff.mp (show (Jvm.Cond.and given_1 narrow_1).before args s = true from hpre))
  obtain ⟨hcnt, hg0⟩ := and_e hg
  obtain ⟨ht0, hg1⟩ := and_e hg0
  have ht1 := hg1
  obtain ⟨w0, w1, rfl⟩ : ∃ w0 w1 : Value, args = #[w0, w1] := by
    have hs : args.size = 2 := by simpa [Cond.value, given_1] using hcnt
    obtain ⟨L⟩ := args
    match L, hs with
    | [w0, w1], _ => exact ⟨w0, w1, rfl⟩
  have hw := fun d (hd : d ∈ tables_1) => atoms_spec (ws := Jvm.Cond.code x code maxLocals ret :: tables_1) hat d (List.mem_cons_of_mem _ hd)
  have hfit : Fit s := fun {y c} hc i hi => by
    obtain ⟨ha, rfl⟩ := Array.getElem?_eq_some_iff.mp hc
    have q := List.all_eq_true.mp ((Array.all_eq_true_iff_forall_mem.mp hF) _ (Array.getElem_mem ha)) i (List.mem_range.mpr hi)
    simpa [Array.getElem?_eq_getElem hi] using q
  obtain ⟨i0, ei0⟩ := isL_v ht0
  obtain rfl : w0 = (.long i0) := Option.some.inj ei0
  obtain ⟨i1, ei1⟩ := is_v ht1
  obtain rfl : w1 = (.int i1) := Option.some.inj ei1
  obtain ⟨n, o, h1, h2, h3, _, L, rfl, ⟨rfl, N⟩, hq⟩ := (rm0 l s _ hw i0 i1 s.heap.size s.heap) tables_1 p e ha hc hk s m _ below hf ((Spec.applies_iff_loose hf).mp happ).1 ⟨rfl, State.Warmed39.refl s, rfl⟩ trivial
  refine ⟨n, _, h1, h2, h3, hpost _ _ _ _ _ _ ⟨Cond.after_iff.mpr rfl, Cond.after_iff.mpr (eq_i res_at (Term.int_eval (1)) rfl), trivial⟩ ⟨hq.1, hq.2.1, (hq.2.2.sift fun y hy => Or.inr (N y hy)).mono (by decide) (by decide)⟩⟩
theorem main_1_1 : Claimed_1_1 := comes_1 fun _ _ _ _ _ _ h hF => ⟨h.1, hF⟩
theorem main_1_2 : Claimed_1_2 := comes_1 fun _ _ _ _ _ _ h hF => ⟨h.2.1, hF⟩
end Jvm.Pilot.@@N@@
namespace Jvm.Pilot.@@N@@
open Jvm Jvm.ClassFile Sem Op Lib Jvm.Free Jvm.Stand Jvm.Pilot.@@N@@.Jvm.D
/-! MADE BY PROGRAM (witnessworld.py) out of the Statement's table words and the real class files: 8 classes; the members and pool entries that the words name. The judged class is class 1, her method 1. -/
namespace start1
open Jvm.ClassFile
def u (s : String) : CpInfo := .utf8 (stringToUtf16 s)
/-- a pool by its gaps: so many unusable entries, then the entry; so many at the end -/
def gap : Nat → List CpInfo → List CpInfo
  | 0, r => r
  | n + 1, r => .unusable :: gap n r
def poolList (es : List (Nat × CpInfo)) (last : Nat) : List CpInfo := es.foldr (fun e r => gap e.1 (e.2 :: r)) (gap last [])
def pool (es : List (Nat × CpInfo)) (last : Nat) : Array CpInfo := ⟨poolList es last⟩
def fileOf (pool : Array CpInfo) (this : Nat) (attrs : Array Attribute := #[]) (ms : Array MethodInfo := #[]) (fl : Nat := 33) (sup : Nat := 0) (ifs : Array Nat := #[]) (fds : Array FieldInfo := #[]) : ClassFile where
  minorVersion := 0
  majorVersion := 65
  constantPool := pool
  accessFlags := fl
  thisClass := this
  superClass := sup
  interfaces := ifs
  fields := fds
  methods := ms
  attributes := attrs
def plain (name : String) (sup : Option ClassId) : Class where
  name := name
  kind := .ordinary
  loader := none
  accessFlags := 33
  super := sup
  interfaces := #[]
  cf := none
  fields := #[]
  methods := #[]
  instanceTypes := #[]
  staticTypes := #[]
  resolved := #[]
  callSites := []
  init := .initialized
  statics := none
  mirror := none

def pool0 : Array CpInfo := pool [(5, u "<init>"), (0, u "()V"), (1, .class_ 10), (1, u "java/lang/Object")] 113

def k0m0 : Method := { name := "<init>", desc := "()V", sig := { parameters := [], returnType := none }, accessFlags := 1, code := none }
/-- java/lang/Object -/
def k0 : Class := { plain "java/lang/Object" none with
  accessFlags := 33
  interfaces := #[]
  cf := some (fileOf pool0 8 #[] #[{ accessFlags := 1, nameIndex := 5, descriptorIndex := 6, attributes := #[] }] 33 0 #[] #[])
  fields := #[]
  methods := #[k0m0]
  instanceTypes := #[]
  staticTypes := #[]
  resolved := Array.replicate 124 none
  statics := none }

def pool1 : Array CpInfo := pool [(2, .class_ 4), (1, u "java/lang/Object"), (0, u "<init>"), (0, u "()V"), (0, .integer 2147483647), (0, .methodref 9 10), (0, .class_ 11), (0, .nameAndType 12 13), (0, u "java/lang/Math"), (0, u "max"), (0, u "(II)I"), (0, .methodref 15 16), (0, .class_ 17), (0, .nameAndType 18 19), (0, u "com/example/balk/balk/CounterTable"), (0, u "bucketIndex"), (0, u "(JI)I"), (0, .class_ 21), (0, u "com/example/balk/balk/CounterTableBucketIndexPinLaw"), (2, u "law"), (0, u "(JI)Z")] 3

def k1m0 : Method := { name := "<init>", desc := "()V", sig := { parameters := [], returnType := none }, accessFlags := 1, code := none }
def k1c1 : Code := { maxStack := 4, maxLocals := 13, code := code, exceptionTable := #[], attributes := #[] }
def k1m1 : Method := { name := "law", desc := "(JI)Z", sig := { parameters := [.long, .int], returnType := some .boolean }, accessFlags := 9, code := some k1c1 }
/-- com/example/balk/balk/CounterTableBucketIndexPinLaw -/
def k1 : Class := { plain "com/example/balk/balk/CounterTableBucketIndexPinLaw" (some 0) with
  accessFlags := 49
  interfaces := #[]
  cf := some (fileOf pool1 20 #[] #[{ accessFlags := 1, nameIndex := 5, descriptorIndex := 6, attributes := #[] }, { accessFlags := 9, nameIndex := 24, descriptorIndex := 25, attributes := #[] }] 49 2 #[] #[])
  fields := #[]
  methods := #[k1m0, k1m1]
  instanceTypes := #[]
  staticTypes := #[]
  resolved := Array.replicate 29 none
  statics := none }

def pool2 : Array CpInfo := pool [(1, .class_ 2), (0, u "java/lang/Math"), (1, .class_ 6), (1, u "java/lang/Object"), (0, u "<init>"), (0, u "()V"), (89, .class_ 100), (1, u "java/lang/Math$RandomNumberGeneratorHolder"), (71, u "negativeZeroFloatBits"), (0, u "J"), (2, u "negativeZeroDoubleBits"), (21, u "max"), (46, u "$assertionsDisabled"), (0, u "Z"), (88, u "(II)I"), (2, u "twoToTheDoubleScaleDown"), (0, u "D"), (4, u "twoToTheDoubleScaleUp"), (9, u "E"), (3, u "PI"), (2, u "TAU"), (2, u "DEGREES_TO_RADIANS"), (0, u "RADIANS_TO_DEGREES")] 94

def k2m0 : Method := { name := "<init>", desc := "()V", sig := { parameters := [], returnType := none }, accessFlags := 2, code := none }
def k2c1 : Code := { maxStack := 2, maxLocals := 2, code := jdk_29_method_65_code, exceptionTable := #[], attributes := #[] }
def k2m1 : Method := { name := "max", desc := "(II)I", sig := { parameters := [.int, .int], returnType := some .int }, accessFlags := 9, code := some k2c1 }
/-- java/lang/Math -/
def k2 : Class := { plain "java/lang/Math" (some 0) with
  accessFlags := 49
  interfaces := #[]
  cf := some (fileOf pool2 1 #[.nestMembers #[98]] #[{ accessFlags := 2, nameIndex := 7, descriptorIndex := 8, attributes := #[] }, { accessFlags := 9, nameIndex := 198, descriptorIndex := 335, attributes := #[] }] 49 4 #[] #[{ accessFlags := 25, nameIndex := 354, descriptorIndex := 339, attributes := #[] }, { accessFlags := 25, nameIndex := 358, descriptorIndex := 339, attributes := #[] }, { accessFlags := 25, nameIndex := 361, descriptorIndex := 339, attributes := #[] }, { accessFlags := 26, nameIndex := 364, descriptorIndex := 339, attributes := #[] }, { accessFlags := 26, nameIndex := 365, descriptorIndex := 339, attributes := #[] }, { accessFlags := 26, nameIndex := 172, descriptorIndex := 173, attributes := #[] }, { accessFlags := 26, nameIndex := 176, descriptorIndex := 173, attributes := #[] }, { accessFlags := 8, nameIndex := 344, descriptorIndex := 339, attributes := #[] }, { accessFlags := 8, nameIndex := 338, descriptorIndex := 339, attributes := #[] }, { accessFlags := 4120, nameIndex := 245, descriptorIndex := 246, attributes := #[] }])
  fields := #[{ name := "E", type := .double, accessFlags := 25, slot := 0, constantValue := 0 }, { name := "PI", type := .double, accessFlags := 25, slot := 1, constantValue := 0 }, { name := "TAU", type := .double, accessFlags := 25, slot := 2, constantValue := 0 }, { name := "DEGREES_TO_RADIANS", type := .double, accessFlags := 26, slot := 3, constantValue := 0 }, { name := "RADIANS_TO_DEGREES", type := .double, accessFlags := 26, slot := 4, constantValue := 0 }, { name := "negativeZeroFloatBits", type := .long, accessFlags := 26, slot := 5, constantValue := 0 }, { name := "negativeZeroDoubleBits", type := .long, accessFlags := 26, slot := 6, constantValue := 0 }, { name := "twoToTheDoubleScaleUp", type := .double, accessFlags := 8, slot := 7, constantValue := 0 }, { name := "twoToTheDoubleScaleDown", type := .double, accessFlags := 8, slot := 8, constantValue := 0 }, { name := "$assertionsDisabled", type := .boolean, accessFlags := 4120, slot := 9, constantValue := 0 }]
  methods := #[k2m0, k2m1]
  instanceTypes := #[]
  staticTypes := #[.double, .double, .double, .double, .double, .long, .long, .double, .double, .boolean]
  resolved := Array.replicate 460 none
  statics := none }

def pool3 : Array CpInfo := pool [(2, .class_ 4), (1, u "java/lang/Object"), (3, .class_ 10), (1, u "com/example/balk/balk/CounterTable"), (2, .class_ 14), (0, u "com/example/balk/balk/CounterTable$Bucket"), (2, u "buckets"), (0, u "[Lcom/example/balk/balk/CounterTable$Bucket;"), (11, u "seeded"), (0, u "Z"), (6, u "seed"), (0, u "J"), (27, u "bucketIndex"), (0, u "(JI)I"), (19, u "KINDS"), (0, u "I"), (15, u "BUCKET_SIZE"), (2, u "MAX_CAPACITY"), (0, u "SPREAD")] 27

def k3c0 : Code := { maxStack := 4, maxLocals := 3, code := prog_3_method_7_code, exceptionTable := #[], attributes := #[] }
def k3m0 : Method := { name := "bucketIndex", desc := "(JI)I", sig := { parameters := [.long, .int], returnType := some .int }, accessFlags := 8, code := some k3c0 }
/-- com/example/balk/balk/CounterTable -/
def k3 : Class := { plain "com/example/balk/balk/CounterTable" (some 0) with
  accessFlags := 32
  interfaces := #[]
  cf := some (fileOf pool3 8 #[.nestMembers #[13]] #[{ accessFlags := 8, nameIndex := 67, descriptorIndex := 68, attributes := #[] }] 32 2 #[] #[{ accessFlags := 24, nameIndex := 105, descriptorIndex := 89, attributes := #[] }, { accessFlags := 24, nameIndex := 108, descriptorIndex := 89, attributes := #[] }, { accessFlags := 26, nameIndex := 109, descriptorIndex := 39, attributes := #[] }, { accessFlags := 26, nameIndex := 88, descriptorIndex := 89, attributes := #[] }, { accessFlags := 18, nameIndex := 17, descriptorIndex := 18, attributes := #[] }, { accessFlags := 18, nameIndex := 30, descriptorIndex := 31, attributes := #[] }, { accessFlags := 18, nameIndex := 38, descriptorIndex := 39, attributes := #[] }])
  fields := #[{ name := "BUCKET_SIZE", type := .int, accessFlags := 24, slot := 0, constantValue := 0 }, { name := "MAX_CAPACITY", type := .int, accessFlags := 24, slot := 1, constantValue := 0 }, { name := "SPREAD", type := .long, accessFlags := 26, slot := 2, constantValue := 0 }, { name := "KINDS", type := .int, accessFlags := 26, slot := 3, constantValue := 0 }, { name := "buckets", type := (.array (.object "com/example/balk/balk/CounterTable$Bucket")), accessFlags := 18, slot := 0, constantValue := 0 }, { name := "seeded", type := .boolean, accessFlags := 18, slot := 1, constantValue := 0 }, { name := "seed", type := .long, accessFlags := 18, slot := 2, constantValue := 0 }]
  methods := #[k3m0]
  instanceTypes := #[(.array (.object "com/example/balk/balk/CounterTable$Bucket")), .boolean, .long]
  staticTypes := #[.int, .int, .long, .int]
  resolved := Array.replicate 137 none
  statics := none }

def pool4 : Array CpInfo := pool [(1, u "java/lang/Cloneable"), (0, .class_ 1), (0, u "java/lang/Object"), (0, .class_ 3)] 3

/-- java/lang/Cloneable -/
def k4 : Class := { plain "java/lang/Cloneable" (some 0) with
  accessFlags := 1537
  interfaces := #[]
  cf := some (fileOf pool4 2 #[] #[] 1537 4 #[] #[])
  fields := #[]
  methods := #[]
  instanceTypes := #[]
  staticTypes := #[]
  resolved := Array.replicate 8 none
  statics := none }

def pool5 : Array CpInfo := pool [(1, u "java/io/Serializable"), (0, .class_ 1), (0, u "java/lang/Object"), (0, .class_ 3)] 3

/-- java/io/Serializable -/
def k5 : Class := { plain "java/io/Serializable" (some 0) with
  accessFlags := 1537
  interfaces := #[]
  cf := some (fileOf pool5 2 #[] #[] 1537 4 #[] #[])
  fields := #[]
  methods := #[]
  instanceTypes := #[]
  staticTypes := #[]
  resolved := Array.replicate 8 none
  statics := none }

/-- the primitive byte -/
def k6 : Class := { plain "byte" none with kind := .primitive 'B', accessFlags := 0x411 }
/-- [B -/
def k7 : Class := { plain "[B" (some 0) with kind := .array 6 .byte, interfaces := #[4, 5], accessFlags := 1041 }

def heap : Heap := #[]
def classes : Array Class := #[k0, k1, k2, k3, k4, k5, k6, k7]
def interned : List (Array UInt16 × Addr) := []
def slotsUsed : Nat := 0
def theMethod : MethodId := ⟨1, 1⟩
def args0 : Array Value := #[.long 5, .int 3]
def aboutOver (below : List Frame) : State where
  vm := { classes := classes, interned := interned.toArray }
  heap := heap
  slotsUsed := slotsUsed
  threads := #[{ frames := .invoking theMethod args0 :: below }]
def below0 : List Frame := [.native { method := ⟨0, 0⟩, args := #[] }]
def about1 : State := aboutOver below0
def p0 : Program := .bare "" "" ""
def e0 : Env := launch0.env 0 0 0
theorem w_frames : about1.frames = Frame.invoking theMethod args0 :: below0 := rfl
set_option maxRecDepth 65536 in
theorem w_args : argsFit about1.vm theMethod args0 = true := by decide +kernel
set_option maxRecDepth 65536 in
theorem w_heap : heapFits about1 = true := by decide +kernel
set_option maxRecDepth 65536 in
theorem w_runnable : about1.curStatus? = some .runnable := by decide +kernel
set_option maxRecDepth 65536 in
theorem w_alone : about1.alone = true := by decide +kernel
set_option maxRecDepth 65536 in
theorem w_named : about1.methodNamed? x = some theMethod := by decide +kernel
set_option maxRecDepth 65536 in
theorem w_hears : about1.hears theMethod below0 = true := by decide +kernel
set_option maxRecDepth 65536 in
theorem w_ripe : about1.ripe theMethod args0 below0 = true := by decide +kernel
theorem w_running : about1.status = .running := rfl
set_option maxRecDepth 65536 in
theorem w_room : about1.hasRoom e0.platform room_1 = true :=
  launch0.hasRoom_least _ room_1 (by decide +kernel) (by decide +kernel) (by decide +kernel) (by decide +kernel) (by decide +kernel) (by decide +kernel)
theorem allAtoms_all (ts : List Jvm.Cond) (a : Array Jvm.Value) (st : Jvm.State) : (allAtoms ts).before a st = ts.all (fun c => c.before a st) := by
  induction ts with
  | nil => rfl
  | cons c t ih =>
    show (Jvm.Cond.and c (allAtoms t)).before a st = _
    rw [Jvm.Cond.before_and, ih, List.all_cons]
def words1 : List Jvm.Cond := Jvm.Cond.code x code maxLocals ret :: tables_1
/-- a 'code' word, met by the world's own term for the bytes: nothing is compared byte by byte -/
theorem code_word {y : MethodName} {bytes : ByteArray} {mx : Nat} {rt : Option FieldType} {a : Array Value} {s : State} {m : MethodId} {meth : Method} {c : Code} (h1 : s.methodNamed? y = some m) (h2 : s.vm.method? m = some meth) (h3 : meth.code = some c) (h4 : c.code = bytes)
    (h5 : (c.maxLocals == mx && c.exceptionTable.isEmpty && decide (c.maxStack ≤ mostOperands) && decide (meth.sig.returnType = rt) && !meth.locks && decide (parseMethodDescriptor y.desc = some meth.sig)) = true) : (Jvm.Cond.code y bytes mx rt).before a s = true := by
  simp only [Bool.and_eq_true, beq_iff_eq, Bool.not_eq_true', decide_eq_true_eq] at h5
  obtain ⟨⟨⟨⟨⟨g1, g2⟩, g3⟩, g4⟩, g5⟩, g6⟩ := h5
  simp [Cond.before, Cond.holds, Cond.value, h1, h2, h3, h4, g1, g2, g3, g4, g5, g6]
def isCode : Jvm.Cond → Bool
  | .code _ _ _ _ => true
  | _ => false
theorem all_split {L : List Jvm.Cond} {P : Jvm.Cond → Bool} (h1 : L.all (fun c => isCode c || P c) = true) (h2 : ∀ c ∈ L.filter isCode, P c = true) : L.all P = true := by
  refine List.all_eq_true.mpr fun c hc => ?_
  have h := List.all_eq_true.mp h1 c hc
  rcases Bool.eq_false_or_eq_true (isCode c) with hi | hi
  · exact h2 c (List.mem_filter.mpr ⟨hc, hi⟩)
  · simpa [hi] using h
set_option maxRecDepth 65536 in
theorem w_c0 : (Jvm.Cond.code x code maxLocals ret).before args0 about1 = true := code_word (m := ⟨1, 1⟩) (meth := k1m1) (c := k1c1) (by decide +kernel) rfl rfl rfl (by decide +kernel)
set_option maxRecDepth 65536 in
theorem w_c1 : (Jvm.Cond.code ({ cls := "java/lang/Math", name := "max", desc := "(II)I" } : Jvm.MethodName) jdk_29_method_65_code (2 : Nat) (Option.some Jvm.ClassFile.FieldType.int)).before args0 about1 = true := code_word (m := ⟨2, 1⟩) (meth := k2m1) (c := k2c1) (by decide +kernel) rfl rfl rfl (by decide +kernel)
set_option maxRecDepth 65536 in
theorem w_c2 : (Jvm.Cond.code ({ cls := "com/example/balk/balk/CounterTable", name := "bucketIndex", desc := "(JI)I" } : Jvm.MethodName) prog_3_method_7_code (3 : Nat) (Option.some Jvm.ClassFile.FieldType.int)).before args0 about1 = true := code_word (m := ⟨3, 0⟩) (meth := k3m0) (c := k3c0) (by decide +kernel) rfl rfl rfl (by decide +kernel)
def codes1 : List Jvm.Cond := [Jvm.Cond.code x code maxLocals ret, Jvm.Cond.code ({ cls := "java/lang/Math", name := "max", desc := "(II)I" } : Jvm.MethodName) jdk_29_method_65_code (2 : Nat) (Option.some Jvm.ClassFile.FieldType.int), Jvm.Cond.code ({ cls := "com/example/balk/balk/CounterTable", name := "bucketIndex", desc := "(JI)I" } : Jvm.MethodName) prog_3_method_7_code (3 : Nat) (Option.some Jvm.ClassFile.FieldType.int)]
set_option maxRecDepth 65536 in
theorem codes_eq : words1.filter isCode = codes1 := rfl
theorem w_codes : ∀ c ∈ words1.filter isCode, c.before args0 about1 = true := by
  rw [codes_eq]
  intro c hc
  simp only [codes1, List.mem_cons, List.not_mem_nil, or_false] at hc
  rcases hc with rfl | rfl | rfl
  · exact w_c0
  · exact w_c1
  · exact w_c2
set_option maxRecDepth 65536 in
theorem w_t1 : words1.all (fun c => isCode c || c.before args0 about1) = true := by decide +kernel
theorem w_tables : (allAtoms (Jvm.Cond.code x code maxLocals ret :: tables_1)).before args0 about1 = true := by
  rw [allAtoms_all]
  show words1.all (fun c => c.before args0 about1) = true
  refine all_split ?_ w_codes
  rw [w_t1]
set_option maxRecDepth 65536 in
theorem w_case : (Jvm.Cond.and given_1 narrow_1).before args0 about1 = true := by decide +kernel
theorem w_applies : (headSpec (Jvm.Cond.code x code maxLocals ret :: tables_1) room_1).applies x e0.platform about1 = true :=
  (Spec.applies_iff w_frames).mpr ⟨w_running, w_runnable, w_alone, w_named, w_hears, w_ripe, w_room, w_tables⟩
theorem atStart : AtStart classFile x code maxLocals ret World_1 tables_1 room_1 Calls_1 rest_1 Pre_1 launch0 p0 e0 about1 theMethod args0 below0 :=
  ⟨lists_1, trivial, launch0.admits_env _ _ _, launch0.least_env, fairChoices_fair.cas, fairChoices_fair.clock, w_frames, w_args, w_heap, w_applies, trivial, trivial, w_case⟩
end start1
theorem witness_1 : WitnessClaimed_1 := ⟨start1.p0, start1.e0, start1.about1, start1.theMethod, start1.args0, start1.below0, start1.atStart⟩
end Jvm.Pilot.@@N@@
