import JvmDerived
import JvmDerived.Pilot.@@N@@Statement
import JvmDerived.Pilot.@@N@@Code
set_option linter.unusedVariables false
set_option linter.unusedSimpArgs false
namespace Jvm.OwnKit
open Sem ClassFile Op Lib Jvm.Stand Jvm.Free Jvm.LawKit Jvm.RoadKit
section Core
variable {p : Program} {l : Launch} {e : Env} {R : Room} {s : State} {m : MethodId} {args : Array Value} {below : List Frame} {meth : Method} {c : Code} {T T' : State} {locs : List Loc} {cells slots : Nat} {Z : State} {a0 : Array Value} {h : Heap}
  {Q Q' : Option Value → Heap → List Loc → Prop} {kc ks : Nat} {F : Outcome → State → Prop}
/-- from the frame f over T the body comes to its end, and F holds there -/
def GoG (p : Program) (e : Env) (below : List Frame) (F : Outcome → State → Prop) (T : State) (f : JFrame) : Prop :=
  ∃ t o, Steps p.tables e below (T.setTop f) t ∧ t.status = .running ∧ Ended t below o ∧ F o t
/-- .. Q holds there, and the frame is kept -/
def Fin (s : State) (Q : Option Value → Heap → List Loc → Prop) (kc ks : Nat) : Outcome → State → Prop := fun o t => ∃ v L, o = .returned v ∧ Q v t.heap L ∧ FrameEnd s o t L kc ks
abbrev Go (p : Program) (e : Env) (below : List Frame) (s : State) (Q : Option Value → Heap → List Loc → Prop) (kc ks : Nat) (T : State) (f : JFrame) : Prop := GoG p e below (Fin s Q kc ks) T f
theorem Go.back {f f' : JFrame} (st : ∀ t, Steps p.tables e below (T'.setTop f') t → Steps p.tables e below (T.setTop f) t) (k : GoG p e below F T' f') : GoG p e below F T f := by
  obtain ⟨t, o, h1, h2⟩ := k; exact ⟨t, o, st _ h1, h2⟩
theorem Go.cast {f f' : JFrame} (q : f = f') (k : GoG p e below F T f') : GoG p e below F T f := q ▸ k
theorem Go.imp {f : JFrame} (q : ∀ v h L, Q' v h L → Q v h L) (k : Go p e below s Q' kc ks T f) : Go p e below s Q kc ks T f := by
  obtain ⟨t, o, h1, h2, h3, v, L, h4, h5, h6⟩ := k; exact ⟨t, o, h1, h2, h3, v, L, h4, q _ _ _ h5, h6⟩
theorem Go.done (X : Stand p l e R s m args below meth c T locs cells slots) {v : Option Value} {f0 : JFrame} (hv : meth.sig.returnType = none → v = none) (hlk : meth.locks = false)
    (st : ∀ fs, (∀ (f : JFrame) (acts : List Action), f.method = m → f.locked = none → f.entered = [] → (doReturn e (T.setTop f) acts v).1 = T.setFrames fs) → Steps p.tables e below (T.setTop f0) (T.setFrames fs))
    (hQ : Q v T.heap locs) (hc : cells ≤ kc) (hs : slots ≤ ks) : Go p e below s Q kc ks T f0 := by
  obtain ⟨fs, hr, hrun, hended, hW, hsame⟩ := X.leave (v := v) hv hlk
  exact ⟨_, _, st fs hr, hrun, hended, v, locs, rfl, hQ, ⟨_, rfl⟩, hW, hsame.mono hc hs⟩
theorem Go.retI (X : Stand p l e R s m args below meth c T locs cells slots) (hx : p.tables.exec = Jvm.exec) {pc : Nat} {Ls : Array Slot} {z : Int32} {rest : List Value} (hret : meth.sig.returnType = some .int) (hlk : meth.locks = false) (hd : decode c.code pc = .ok (.ireturn, 1))
    (hQ : Q (some (.int z)) T.heap locs) (hc : cells ≤ kc) (hs : slots ≤ ks) : Go p e below s Q kc ks T (mkF m pc Ls (.int z :: rest)) :=
  Go.done X (fun q => by rw [hret] at q; cases q) hlk (fun _ hl => retOut X hx hret rfl (Or.inl ⟨rfl, Or.inl rfl, z, rfl⟩) hd hl) hQ hc hs
theorem Go.retJ (X : Stand p l e R s m args below meth c T locs cells slots) (hx : p.tables.exec = Jvm.exec) {pc : Nat} {Ls : Array Slot} {z : Int64} {rest : List Value} (hret : meth.sig.returnType = some .long) (hlk : meth.locks = false) (hd : decode c.code pc = .ok (.lreturn, 1))
    (hQ : Q (some (.long z)) T.heap locs) (hc : cells ≤ kc) (hs : slots ≤ ks) : Go p e below s Q kc ks T (mkF m pc Ls (.long z :: rest)) :=
  Go.done X (fun q => by rw [hret] at q; cases q) hlk (fun _ hl => retOut X hx hret rfl (Or.inr (Or.inl ⟨rfl, rfl, z, rfl⟩)) hd hl) hQ hc hs
theorem narrow_ref {t : FieldType} {w : Value} (hw : w.isRef = true) : narrow t w = w := by
  cases w <;> simp [Value.isRef] at hw <;> cases t <;> rfl
theorem Go.retA (X : Stand p l e R s m args below meth c T locs cells slots) (hx : p.tables.exec = Jvm.exec) {pc : Nat} {Ls : Array Slot} {w : Value} {t : FieldType} {rest : List Value} (hret : meth.sig.returnType = some t) (hlk : meth.locks = false) (hd : decode c.code pc = .ok (.areturn, 1)) (ht : t.isReference = true) (hw : w.isRef = true)
    (hQ : Q (some w) T.heap locs) (hc : cells ≤ kc) (hs : slots ≤ ks) : Go p e below s Q kc ks T (mkF m pc Ls (w :: rest)) :=
  Go.done X (fun q => by rw [hret] at q; cases q) hlk (fun _ hl => retOut X hx hret (narrow_ref hw) (Or.inr (Or.inr (Or.inr (Or.inr ⟨rfl, ht, hw⟩)))) hd hl) hQ hc hs
theorem Go.ret0 (X : Stand p l e R s m args below meth c T locs cells slots) (hx : p.tables.exec = Jvm.exec) {pc : Nat} {Ls : Array Slot} (hret : meth.sig.returnType = none) (hlk : meth.locks = false) (hd : decode c.code pc = .ok (.return_, 1))
    (hQ : Q none T.heap locs) (hc : cells ≤ kc) (hs : slots ≤ ks) : Go p e below s Q kc ks T (mkF m pc Ls []) :=
  Go.done X (fun _ => rfl) hlk (fun _ hl => X.returnOut hx hret hd hl) hQ hc hs
theorem Go.retN (X : Stand p l e R s m args below meth c T locs cells slots) (hx : p.tables.exec = Jvm.exec) {pc : Nat} {Ls : Array Slot} {z w : Int32} {t : FieldType} {rest : List Value} (hret : meth.sig.returnType = some t) (ht : t = .boolean ∨ t = .byte ∨ t = .char ∨ t = .short) (hw : nar t z = w) (hlk : meth.locks = false) (hd : decode c.code pc = .ok (.ireturn, 1))
    (hQ : Q (some (.int w)) T.heap locs) (hc : cells ≤ kc) (hs : slots ≤ ks) : Go p e below s Q kc ks T (mkF m pc Ls (.int z :: rest)) :=
  Go.done X (fun q => by rw [hret] at q; cases q) hlk (fun _ hl => Jvm.RoadKit.retN X hx hret ht hd (by rw [hw]; exact hl)) hQ hc hs
theorem nar_bool {z : Int32} (hz : z = 0 ∨ z = 1) : nar .boolean z = z := by rcases hz with rfl | rfl <;> rfl
/-- a body's contract, said of one heap and one array of arguments -/
def Met (l : Launch) (Z : State) (y : MethodName) (bytes : ByteArray) (maxL : Nat) (ret : Option FieldType) (rm : Room) (as' : Array Value) (h : Heap) (Q : Option Value → Heap → List Loc → Prop) : Prop :=
  ∀ ws : List Jvm.Cond, MetFree l y (head1 (Jvm.Cond.code y bytes maxL ret :: ws) rm) (fun a U => a = as' ∧ Z.Warmed39 U.vm ∧ U.heap = h) (fun _ _ _ _ _ => True) (fun _ U o U' => ∃ v L, o = .returned v ∧ Q v U'.heap L ∧ FrameEnd U o U' L rm.cells rm.slots)
variable {y z : MethodName} {bytes : ByteArray} {maxL : Nat} {ret : Option FieldType} {rm : Room} {as' : Array Value}
theorem Met.intro (hp : plainFor y = true) (body : ∀ (p : Program) (e : Env) (s : State) (m : MethodId) (below : List Frame) (meth : Method) (c : Code) (T : State),
      p.tables.exec = Jvm.exec → c.code = bytes → c.maxLocals = maxL → s.vm.findClass y.cls = some m.cls → meth.name = y.name → meth.sig.returnType = ret → meth.locks = false → Z.Warmed39 s.vm →
      Stand p l e rm s m as' below meth c T [] 0 0 → T.heap = h → Go p e below s Q rm.cells rm.slots T (entryFrame m as' maxL)) : Met l Z y bytes maxL ret rm as' h Q := by
  intro ws
  refine MetFree.of_bodySF hp hisR ?_
  intro p e s m args below meth c s₁ Bd hml0 hP hK
  obtain ⟨rfl, hZ, hh⟩ := hP
  exact body p e s m below meth c s₁ Bd.exec Bd.bytes hml0 (findClass_of_methodNamed Bd.named) (name_of_methodNamed Bd.named Bd.method).1 Bd.returns Bd.notSynchronized hZ (Stand.of_body Bd) (by rw [← hh, Bd.state]; rfl)
theorem Met.imp (q : ∀ v h L, Q' v h L → Q v h L) (k : Met l Z y bytes maxL ret rm as' h Q') : Met l Z y bytes maxL ret rm as' h Q := fun ws p e ha hc hk s m args below hf happ hP hK => by
  obtain ⟨n, o, h1, h2, h3, v, L, h4, h5, h6⟩ := k ws p e ha hc hk s m args below hf happ hP hK
  exact ⟨n, o, h1, h2, h3, v, L, h4, q _ _ _ h5, h6⟩
theorem Go.callS (X : Stand p l e R s m args below meth c T locs cells slots) (hx : p.tables.exec = Jvm.exec) (hZ : Z.Warmed39 s.vm) {own : String} {index : Nat} (hown : s.vm.findClass own = some m.cls)
    (w1 : (Jvm.Cond.methodLink own index y).before a0 Z = true) (w2 : (Jvm.Cond.static y).before a0 Z = true) (w3 : (Jvm.Cond.initialized y.cls).before a0 Z = true) (w4 : (Jvm.Cond.code y bytes maxL ret).before a0 Z = true)
    (hy : y.cls ≠ "java/lang/invoke/MethodHandle" ∧ y.cls ≠ "java/lang/invoke/VarHandle") (eT : T.heap = h) {argsL rest st : List Value} (hM : Met l Z y bytes maxL ret rm argsL.toArray h Q')
    (hlen : ∀ sig, parseMethodDescriptor y.desc = some sig → argsL.length = sig.parameters.length) {pc : Nat} {Ls : Array Slot} (hst : st = argsL.reverse ++ rest) (hsz : Ls.size = c.maxLocals) {W : Nat} (hW : 2 * 0 + (rest.map fun v => v.category).sum ≤ W)
    (hd : decode c.code pc = .ok (.invokestatic index, 3)) (hf : rm.frames + 1 ≤ R.frames) (hl : W + (maxL + 11) + rm.locals ≤ R.locals) (hc : cells + rm.cells ≤ R.cells) (hs : slots + rm.slots ≤ R.slots)
    (k : ∀ v T' L, Stand p l e R s m args below meth c T' (locs ++ L) (cells + rm.cells) (slots + rm.slots) → Q' v T'.heap L → GoG p e below F T' (mkF m (pc + 3) Ls (v.toList ++ rest))) :
    GoG p e below F T (mkF m pc Ls st) := by
  subst hst
  obtain ⟨v, _, ⟨T1, L1, k1, n1⟩, -, X1, ⟨Lc, hQ, l1, y1, z1⟩, st1⟩ := Jvm.LawKit.callS X hx (y := y) hown (mvT hZ w1) (mvT hZ w2) (mvT hZ w3) (mvT hZ w4) hy (backOf (W := W) (hM []) hZ w4 w3 hf hl) (g := mkF m pc Ls (argsL.reverse ++ rest)) rfl hsz (argsL := argsL) (rest := rest) hlen rfl hW hd (fun _ _ => ⟨rfl, eT, hc, hs⟩)
  dsimp only [Pt.U, Pt.locs, Pt.cells, Pt.slots] at X1 l1 y1 z1 st1 hQ
  subst l1 y1 z1
  exact Go.back st1 (k v T1 Lc X1 hQ)
theorem Go.callI (X : Stand p l e R s m args below meth c T locs cells slots) (hx : p.tables.exec = Jvm.exec) (hZ : Z.Warmed39 s.vm) {own : String} {index : Nat} (hy1 : y.name = "<init>") (hown : s.vm.findClass own = some m.cls)
    (w1 : (Jvm.Cond.methodLink own index y).before a0 Z = true) (w2 : (Jvm.Cond.instanceMethod y).before a0 Z = true) (w3 : (Jvm.Cond.initialized y.cls).before a0 Z = true) (w4 : (Jvm.Cond.code y bytes maxL none).before a0 Z = true)
    (hy : y.cls ≠ "java/lang/invoke/MethodHandle" ∧ y.cls ≠ "java/lang/invoke/VarHandle") (eT : T.heap = h) {a : Addr} {argsL rest st : List Value} (hM : Met l Z y bytes maxL none rm (.ref a :: argsL).toArray h Q')
    (hlen : ∀ sig, parseMethodDescriptor y.desc = some sig → argsL.length = sig.parameters.length) {pc : Nat} {Ls : Array Slot} (hst : st = argsL.reverse ++ .ref a :: rest) (hsz : Ls.size = c.maxLocals) {W : Nat} (hW : 2 * 0 + (rest.map fun v => v.category).sum ≤ W)
    (hd : decode c.code pc = .ok (.invokespecial index, 3)) (hf : rm.frames + 1 ≤ R.frames) (hl : W + (maxL + 11) + rm.locals ≤ R.locals) (hc : cells + rm.cells ≤ R.cells) (hs : slots + rm.slots ≤ R.slots)
    (k : ∀ v T' L, Stand p l e R s m args below meth c T' (locs ++ L) (cells + rm.cells) (slots + rm.slots) → Q' v T'.heap L → GoG p e below F T' (mkF m (pc + 3) Ls (v.toList ++ rest))) :
    GoG p e below F T (mkF m pc Ls st) := by
  subst hst
  obtain ⟨v, _, ⟨T1, L1, k1, n1⟩, -, X1, ⟨Lc, hQ, l1, y1, z1⟩, st1⟩ := X.specialBack hx (y := y) hy1 hown (mvT hZ w1) (mvT hZ w2) (mvT hZ w4) hy (backOf (W := W) (hM []) hZ w4 w3 hf hl) (g := mkF m pc Ls (argsL.reverse ++ .ref a :: rest)) rfl hsz (Steps.refl _) (a := a) (argsL := argsL) (rest := rest) hlen rfl hW hd (fun _ _ => ⟨rfl, eT, hc, hs⟩)
  dsimp only [Pt.U, Pt.locs, Pt.cells, Pt.slots] at X1 l1 y1 z1 st1 hQ
  subst l1 y1 z1
  exact Go.back (fun _ q => st1.trans q) (k v T1 Lc X1 hQ)
theorem Go.callV (X : Stand p l e R s m args below meth c T locs cells slots) (hx : p.tables.exec = Jvm.exec) (hZ : Z.Warmed39 s.vm) {own C : String} {index : Nat} (hown : s.vm.findClass own = some m.cls)
    (w1 : (Jvm.Cond.methodLink own index y).before a0 Z = true) (w2 : (Jvm.Cond.declares y).before a0 Z = true) (w3 : (Jvm.Cond.selects C y y).before a0 Z = true) (w4 : (Jvm.Cond.instanceMethod y).before a0 Z = true)
    (w5 : (Jvm.Cond.initialized y.cls).before a0 Z = true) (w6 : (Jvm.Cond.code y bytes maxL ret).before a0 Z = true)
    (hy : y.cls ≠ "java/lang/invoke/MethodHandle" ∧ y.cls ≠ "java/lang/invoke/VarHandle") (eT : T.heap = h) {a : Addr} (E : Exa Z h a C) {argsL rest st : List Value} (hM : Met l Z y bytes maxL ret rm (.ref a :: argsL).toArray h Q')
    (hlen : ∀ sig, parseMethodDescriptor y.desc = some sig → argsL.length = sig.parameters.length) {pc : Nat} {Ls : Array Slot} (hst : st = argsL.reverse ++ .ref a :: rest) (hsz : Ls.size = c.maxLocals) {W : Nat} (hW : 2 * 0 + (rest.map fun v => v.category).sum ≤ W)
    (hd : decode c.code pc = .ok (.invokevirtual index, 3)) (hf : rm.frames + 1 ≤ R.frames) (hl : W + (maxL + 11) + rm.locals ≤ R.locals) (hc : cells + rm.cells ≤ R.cells) (hs : slots + rm.slots ≤ R.slots)
    (k : ∀ v T' L, Stand p l e R s m args below meth c T' (locs ++ L) (cells + rm.cells) (slots + rm.slots) → Q' v T'.heap L → GoG p e below F T' (mkF m (pc + 3) Ls (v.toList ++ rest))) :
    GoG p e below F T (mkF m pc Ls st) := by
  subst hst
  obtain ⟨cq, kq, qa, qb, qc⟩ := isOf hZ eT E
  obtain ⟨v, _, ⟨T1, L1, k1, n1⟩, -, X1, ⟨Lc, hQ, l1, y1, z1⟩, st1⟩ := X.virtualBack hx (y := y) (z := y) hown (mvT hZ w1) (mvT hZ w2) (notFace_of_selects (args := #[]) (mvT hZ w3)) (mvT hZ w3) (mvT hZ w4) hy (backOf (W := W) (hM []) hZ w6 w5 hf hl) qa qc (g := mkF m pc Ls (argsL.reverse ++ .ref a :: rest)) rfl hsz (Steps.refl _) (argsL := argsL) (rest := rest) hlen rfl hW hd (fun _ _ => ⟨rfl, eT, hc, hs⟩)
  dsimp only [Pt.U, Pt.locs, Pt.cells, Pt.slots] at X1 l1 y1 z1 st1 hQ
  subst l1 y1 z1
  exact Go.back (fun _ q => st1.trans q) (k v T1 Lc X1 hQ)
end Core
section Cmp
theorem l_lt_t {x y : Int64} (h : x < y) : ifCond.holds .lt (lcmpW x y) = true := (if0 _ _).trans (tlt ((lw_lt x y).mpr h)).1
theorem l_lt_f {x y : Int64} (h : ¬ x < y) : ifCond.holds .lt (lcmpW x y) = false := (if0 _ _).trans (flt (fun q => h ((lw_lt x y).mp q))).1
theorem l_ge_t {x y : Int64} (h : ¬ x < y) : ifCond.holds .ge (lcmpW x y) = true := (if0 _ _).trans (flt (fun q => h ((lw_lt x y).mp q))).2.1
theorem l_ge_f {x y : Int64} (h : x < y) : ifCond.holds .ge (lcmpW x y) = false := (if0 _ _).trans (tlt ((lw_lt x y).mpr h)).2.1
theorem l_gt_t {x y : Int64} (h : y < x) : ifCond.holds .gt (lcmpW x y) = true := (if0 _ _).trans (tlt ((lw_gt x y).mpr h)).2.2.1
theorem l_gt_f {x y : Int64} (h : ¬ y < x) : ifCond.holds .gt (lcmpW x y) = false := (if0 _ _).trans (flt (fun q => h ((lw_gt x y).mp q))).2.2.1
theorem l_le_t {x y : Int64} (h : ¬ y < x) : ifCond.holds .le (lcmpW x y) = true := (if0 _ _).trans (flt (fun q => h ((lw_gt x y).mp q))).2.2.2
theorem l_le_f {x y : Int64} (h : y < x) : ifCond.holds .le (lcmpW x y) = false := (if0 _ _).trans (tlt ((lw_gt x y).mpr h)).2.2.2
theorem l_eq_t {x y : Int64} (h : x = y) : ifCond.holds .eq (lcmpW x y) = true := (if0 _ _).trans (teq ((lw_eq x y).mpr h)).1
theorem l_eq_f {x y : Int64} (h : ¬ x = y) : ifCond.holds .eq (lcmpW x y) = false := (if0 _ _).trans (feq (fun q => h ((lw_eq x y).mp q))).1
theorem l_ne_t {x y : Int64} (h : ¬ x = y) : ifCond.holds .ne (lcmpW x y) = true := (if0 _ _).trans (feq (fun q => h ((lw_eq x y).mp q))).2
theorem l_ne_f {x y : Int64} (h : x = y) : ifCond.holds .ne (lcmpW x y) = false := (if0 _ _).trans (teq ((lw_eq x y).mpr h)).2
end Cmp
end Jvm.OwnKit
namespace Jvm.OwnKit
open Sem ClassFile Op Lib Jvm.Stand Jvm.Free Jvm.LawKit Jvm.RoadKit
section Change
variable {Z : State} {n0 : Nat} {h0 h h' : Heap} {ws ws' : List Addr} {L L' : List Loc} {a b : Addr} {sl : Nat} {v : Value}
/-- what a walk has changed since h0: cells at ws, and new ones; no place below n0 -/
def Chg (n0 : Nat) (h0 h : Heap) (ws : List Addr) (L : List Loc) : Prop := n0 ≤ h0.size ∧ Keep h0 h ws ∧ Fr n0 L
theorem Chg.refl (q : n0 ≤ h0.size) : Chg n0 h0 h0 ws [] := ⟨q, Keep.refl _ _, Fr.nil _⟩
theorem Chg.keep (C : Chg n0 h0 h ws L) : Keep h0 h ws := C.2.1
theorem Chg.fr (C : Chg n0 h0 h ws L) : Fr n0 L := C.2.2
theorem Chg.size (C : Chg n0 h0 h ws L) : n0 ≤ h.size := Nat.le_trans C.1 C.2.1.1
theorem Chg.grow (C : Chg n0 h0 h ws L) : h0.size ≤ h.size := C.2.1.1
theorem Chg.at (C : Chg n0 h0 h ws L) (q : a = h.size) : h0.size ≤ a := q ▸ C.grow
theorem Chg.ge (C : Chg n0 h0 h ws L) (q : h0.size ≤ a) : n0 ≤ a := Nat.le_trans C.1 q
theorem Chg.ext (C : Chg n0 h0 h ws L) (E : Ext h h') : Chg n0 h0 h' ws L := ⟨C.1, C.2.1.ext E, C.2.2⟩
theorem Chg.wr (C : Chg n0 h0 h ws L) (W : Wr h h' a sl v) (q : a ∈ ws ∨ h0.size ≤ a) (g : n0 ≤ a) : Chg n0 h0 h' ws (L ++ [⟨a, sl⟩]) := ⟨C.1, C.2.1.wr W q, C.2.2.app fun y hy => by cases List.mem_singleton.mp hy; exact g⟩
theorem Chg.wrN (C : Chg n0 h0 h ws L) (W : Wr h h' a sl v) (q : a ∈ ws ∨ h0.size ≤ a) (N : Fr n0 L') : Chg n0 h0 h' ws (L ++ L') := ⟨C.1, C.2.1.wr W q, C.2.2.app N⟩
theorem Chg.call (C : Chg n0 h0 h ws L) (C' : Chg n0 h h' ws' L') (q : ∀ x ∈ ws', x ∈ ws ∨ h0.size ≤ x) : Chg n0 h0 h' ws (L ++ L') := ⟨C.1, C.2.1.trans C'.2.1 q, C.2.2.app C'.2.2⟩
theorem Chg.cpy (C : Chg n0 h0 h ws L) (K : Keep h h' [b]) (N : Fr n0 L') (q : b ∈ ws ∨ h0.size ≤ b) : Chg n0 h0 h' ws L' := ⟨C.1, C.2.1.trans K (allS q all0), N⟩
theorem Chg.pure (C : Chg n0 h0 h ws L) (N : Fr n0 L') (e : h' = h) : Chg n0 h0 h' ws (L ++ L') := by subst e; exact ⟨C.1, C.2.1, C.2.2.app N⟩
theorem Chg.sub (C : Chg n0 h0 h ws L) (q : ∀ x ∈ ws, x ∈ ws') : Chg n0 h0 h ws' L := ⟨C.1, (Keep.refl h0 ws').trans C.2.1 (fun x hx => Or.inl (q x hx)), C.2.2⟩
theorem lt_ne {F : Nat} (q : b = F) (r : a < F) : a ≠ b := Nat.ne_of_lt (q ▸ r)
theorem Chg.base (C : Chg n0 h0 h ws L) : Chg n0 h h ws' L := ⟨C.size, Keep.refl _ _, C.fr⟩
/-- no class's statics lie at x -/
def NS (h : Heap) (x : Addr) : Prop := ∀ cl : Cell, h[x]? = some cl → cl.vm.isStatics = false
theorem own_exaNS {K : String} (E : Exa Z h a K) : NS h a := fun cl q => by obtain ⟨c, k, h1, -, -, h4, -⟩ := E; cases h1.symm.trans q; exact h4
theorem own_ns0 : ∀ x ∈ ([] : List Addr), NS h x := fun _ q => by cases q
theorem own_nsS (q : NS h a) (r : ∀ x ∈ ws, NS h x) : ∀ x ∈ a :: ws, NS h x := fun x hx => by
  rcases List.mem_cons.mp hx with rfl | q'
  · exact q
  · exact r x q'
theorem staKeep {K n d : String} (S : Sta Z h K n d v) (k : Keep h h' ws) (q : ∀ x ∈ ws, NS h x) : Sta Z h' K n d v := by
  obtain ⟨cf, i, kk, f, st, cell, h1, h2, h3, h4, h5, h6, h7⟩ := S
  exact ⟨cf, i, kk, f, st, cell, h1, h2, h3, h4, k.2.1 _ _ h5 (fun hm => by have := q _ hm _ h5; rw [h6] at this; cases this), h6, h7⟩
end Change
end Jvm.OwnKit
namespace Jvm.Pilot.@@N@@
open Jvm Jvm.ClassFile Sem Op Lib Jvm.Free Jvm.Stand Jvm.LawKit Jvm.RoadKit Bundle Jvm.OwnKit Jvm.Pilot.@@N@@.Jvm.D
theorem d1_0 : decode method_2_code 0 = .ok (.iload_n 0, 1) := by decide +kernel
theorem d1_1 : decode method_2_code 1 = .ok (.ifCond .ne 7, 3) := by decide +kernel
theorem d1_4 : decode method_2_code 4 = .ok (.getstatic 7, 3) := by decide +kernel
theorem d1_7 : decode method_2_code 7 = .ok (.areturn, 1) := by decide +kernel
theorem d1_8 : decode method_2_code 8 = .ok (.iload_n 0, 1) := by decide +kernel
theorem d1_9 : decode method_2_code 9 = .ok (.iconst 1, 1) := by decide +kernel
theorem d1_10 : decode method_2_code 10 = .ok (.if_icmp .ne 7, 3) := by decide +kernel
theorem d1_13 : decode method_2_code 13 = .ok (.getstatic 13, 3) := by decide +kernel
theorem d1_16 : decode method_2_code 16 = .ok (.areturn, 1) := by decide +kernel
theorem d1_17 : decode method_2_code 17 = .ok (.iload_n 0, 1) := by decide +kernel
theorem d1_18 : decode method_2_code 18 = .ok (.iconst 2, 1) := by decide +kernel
theorem d1_19 : decode method_2_code 19 = .ok (.if_icmp .ne 7, 3) := by decide +kernel
theorem d1_22 : decode method_2_code 22 = .ok (.getstatic 16, 3) := by decide +kernel
theorem d1_25 : decode method_2_code 25 = .ok (.areturn, 1) := by decide +kernel
theorem d1_26 : decode method_2_code 26 = .ok (.iload_n 0, 1) := by decide +kernel
theorem d1_27 : decode method_2_code 27 = .ok (.iconst 3, 1) := by decide +kernel
theorem d1_28 : decode method_2_code 28 = .ok (.if_icmp .ne 7, 3) := by decide +kernel
theorem d1_31 : decode method_2_code 31 = .ok (.getstatic 19, 3) := by decide +kernel
theorem d1_34 : decode method_2_code 34 = .ok (.areturn, 1) := by decide +kernel
theorem d1_35 : decode method_2_code 35 = .ok (.iload_n 0, 1) := by decide +kernel
theorem d1_36 : decode method_2_code 36 = .ok (.iconst 4, 1) := by decide +kernel
theorem d1_37 : decode method_2_code 37 = .ok (.if_icmp .ne 7, 3) := by decide +kernel
theorem d1_40 : decode method_2_code 40 = .ok (.getstatic 22, 3) := by decide +kernel
theorem d1_43 : decode method_2_code 43 = .ok (.areturn, 1) := by decide +kernel
theorem d1_44 : decode method_2_code 44 = .ok (.iload_n 0, 1) := by decide +kernel
theorem d1_45 : decode method_2_code 45 = .ok (.iconst 5, 1) := by decide +kernel
theorem d1_46 : decode method_2_code 46 = .ok (.if_icmp .ne 7, 3) := by decide +kernel
theorem d1_49 : decode method_2_code 49 = .ok (.getstatic 25, 3) := by decide +kernel
theorem d1_52 : decode method_2_code 52 = .ok (.areturn, 1) := by decide +kernel
theorem d1_53 : decode method_2_code 53 = .ok (.iload_n 0, 1) := by decide +kernel
theorem d1_54 : decode method_2_code 54 = .ok (.bipush 6, 2) := by decide +kernel
theorem d1_56 : decode method_2_code 56 = .ok (.if_icmp .ne 7, 3) := by decide +kernel
theorem d1_59 : decode method_2_code 59 = .ok (.getstatic 28, 3) := by decide +kernel
theorem d1_62 : decode method_2_code 62 = .ok (.areturn, 1) := by decide +kernel
theorem d1_63 : decode method_2_code 63 = .ok (.iload_n 0, 1) := by decide +kernel
theorem d1_64 : decode method_2_code 64 = .ok (.bipush 7, 2) := by decide +kernel
theorem d1_66 : decode method_2_code 66 = .ok (.if_icmp .ne 7, 3) := by decide +kernel
theorem d1_69 : decode method_2_code 69 = .ok (.getstatic 31, 3) := by decide +kernel
theorem d1_72 : decode method_2_code 72 = .ok (.areturn, 1) := by decide +kernel
theorem d1_73 : decode method_2_code 73 = .ok (.iload_n 0, 1) := by decide +kernel
theorem d1_74 : decode method_2_code 74 = .ok (.bipush 8, 2) := by decide +kernel
theorem d1_76 : decode method_2_code 76 = .ok (.if_icmp .ne 7, 3) := by decide +kernel
theorem d1_79 : decode method_2_code 79 = .ok (.getstatic 34, 3) := by decide +kernel
theorem d1_82 : decode method_2_code 82 = .ok (.areturn, 1) := by decide +kernel
theorem d1_83 : decode method_2_code 83 = .ok (.getstatic 37, 3) := by decide +kernel
theorem d1_86 : decode method_2_code 86 = .ok (.areturn, 1) := by decide +kernel
theorem d2_0 : decode method_3_code 0 = .ok (.iload_n 0, 1) := by decide +kernel
theorem d2_1 : decode method_3_code 1 = .ok (.iconst 1, 1) := by decide +kernel
theorem d2_2 : decode method_3_code 2 = .ok (.if_icmp .ne 5, 3) := by decide +kernel
theorem d2_5 : decode method_3_code 5 = .ok (.iconst 2, 1) := by decide +kernel
theorem d2_6 : decode method_3_code 6 = .ok (.ireturn, 1) := by decide +kernel
theorem d2_7 : decode method_3_code 7 = .ok (.iload_n 0, 1) := by decide +kernel
theorem d2_8 : decode method_3_code 8 = .ok (.iconst 2, 1) := by decide +kernel
theorem d2_9 : decode method_3_code 9 = .ok (.if_icmp .ne 5, 3) := by decide +kernel
theorem d2_12 : decode method_3_code 12 = .ok (.iconst 1, 1) := by decide +kernel
theorem d2_13 : decode method_3_code 13 = .ok (.ireturn, 1) := by decide +kernel
theorem d2_14 : decode method_3_code 14 = .ok (.iconst 0, 1) := by decide +kernel
theorem d2_15 : decode method_3_code 15 = .ok (.ireturn, 1) := by decide +kernel
theorem d3_0 : decode method_4_code 0 = .ok (.iload_n 0, 1) := by decide +kernel
theorem d3_1 : decode method_4_code 1 = .ok (.ifCond .ne 6, 3) := by decide +kernel
theorem d3_4 : decode method_4_code 4 = .ok (.bipush 13, 2) := by decide +kernel
theorem d3_6 : decode method_4_code 6 = .ok (.ireturn, 1) := by decide +kernel
theorem d3_7 : decode method_4_code 7 = .ok (.iload_n 0, 1) := by decide +kernel
theorem d3_8 : decode method_4_code 8 = .ok (.iconst 1, 1) := by decide +kernel
theorem d3_9 : decode method_4_code 9 = .ok (.if_icmp .ne 6, 3) := by decide +kernel
theorem d3_12 : decode method_4_code 12 = .ok (.bipush 9, 2) := by decide +kernel
theorem d3_14 : decode method_4_code 14 = .ok (.ireturn, 1) := by decide +kernel
theorem d3_15 : decode method_4_code 15 = .ok (.iload_n 0, 1) := by decide +kernel
theorem d3_16 : decode method_4_code 16 = .ok (.iconst 2, 1) := by decide +kernel
theorem d3_17 : decode method_4_code 17 = .ok (.if_icmp .ne 6, 3) := by decide +kernel
theorem d3_20 : decode method_4_code 20 = .ok (.bipush 9, 2) := by decide +kernel
theorem d3_22 : decode method_4_code 22 = .ok (.ireturn, 1) := by decide +kernel
theorem d3_23 : decode method_4_code 23 = .ok (.iload_n 0, 1) := by decide +kernel
theorem d3_24 : decode method_4_code 24 = .ok (.iconst 3, 1) := by decide +kernel
theorem d3_25 : decode method_4_code 25 = .ok (.if_icmp .ne 6, 3) := by decide +kernel
theorem d3_28 : decode method_4_code 28 = .ok (.bipush 6, 2) := by decide +kernel
theorem d3_30 : decode method_4_code 30 = .ok (.ireturn, 1) := by decide +kernel
theorem d3_31 : decode method_4_code 31 = .ok (.iload_n 0, 1) := by decide +kernel
theorem d3_32 : decode method_4_code 32 = .ok (.iconst 4, 1) := by decide +kernel
theorem d3_33 : decode method_4_code 33 = .ok (.if_icmp .ne 6, 3) := by decide +kernel
theorem d3_36 : decode method_4_code 36 = .ok (.bipush 9, 2) := by decide +kernel
theorem d3_38 : decode method_4_code 38 = .ok (.ireturn, 1) := by decide +kernel
theorem d3_39 : decode method_4_code 39 = .ok (.iload_n 0, 1) := by decide +kernel
theorem d3_40 : decode method_4_code 40 = .ok (.iconst 5, 1) := by decide +kernel
theorem d3_41 : decode method_4_code 41 = .ok (.if_icmp .ne 5, 3) := by decide +kernel
theorem d3_44 : decode method_4_code 44 = .ok (.iconst 4, 1) := by decide +kernel
theorem d3_45 : decode method_4_code 45 = .ok (.ireturn, 1) := by decide +kernel
theorem d3_46 : decode method_4_code 46 = .ok (.iload_n 0, 1) := by decide +kernel
theorem d3_47 : decode method_4_code 47 = .ok (.bipush 6, 2) := by decide +kernel
theorem d3_49 : decode method_4_code 49 = .ok (.if_icmp .ne 5, 3) := by decide +kernel
theorem d3_52 : decode method_4_code 52 = .ok (.iconst 5, 1) := by decide +kernel
theorem d3_53 : decode method_4_code 53 = .ok (.ireturn, 1) := by decide +kernel
theorem d3_54 : decode method_4_code 54 = .ok (.iload_n 0, 1) := by decide +kernel
theorem d3_55 : decode method_4_code 55 = .ok (.bipush 7, 2) := by decide +kernel
theorem d3_57 : decode method_4_code 57 = .ok (.if_icmp .ne 5, 3) := by decide +kernel
theorem d3_60 : decode method_4_code 60 = .ok (.iconst 5, 1) := by decide +kernel
theorem d3_61 : decode method_4_code 61 = .ok (.ireturn, 1) := by decide +kernel
theorem d3_62 : decode method_4_code 62 = .ok (.iload_n 0, 1) := by decide +kernel
theorem d3_63 : decode method_4_code 63 = .ok (.bipush 8, 2) := by decide +kernel
theorem d3_65 : decode method_4_code 65 = .ok (.if_icmp .ne 5, 3) := by decide +kernel
theorem d3_68 : decode method_4_code 68 = .ok (.iconst 4, 1) := by decide +kernel
theorem d3_69 : decode method_4_code 69 = .ok (.ireturn, 1) := by decide +kernel
theorem d3_70 : decode method_4_code 70 = .ok (.iconst 1, 1) := by decide +kernel
theorem d3_71 : decode method_4_code 71 = .ok (.ireturn, 1) := by decide +kernel
theorem d4_0 : decode prog_57_method_8_code 0 = .ok (.iload_n 1, 1) := by decide +kernel
theorem d4_1 : decode prog_57_method_8_code 1 = .ok (.aload_n 0, 1) := by decide +kernel
theorem d4_2 : decode prog_57_method_8_code 2 = .ok (.getfield 57, 3) := by decide +kernel
theorem d4_5 : decode prog_57_method_8_code 5 = .ok (.if_icmp .lt 15, 3) := by decide +kernel
theorem d4_8 : decode prog_57_method_8_code 8 = .ok (.iload_n 1, 1) := by decide +kernel
theorem d4_9 : decode prog_57_method_8_code 9 = .ok (.aload_n 0, 1) := by decide +kernel
theorem d4_10 : decode prog_57_method_8_code 10 = .ok (.getfield 60, 3) := by decide +kernel
theorem d4_13 : decode prog_57_method_8_code 13 = .ok (.if_icmp .gt 7, 3) := by decide +kernel
theorem d4_16 : decode prog_57_method_8_code 16 = .ok (.iconst 1, 1) := by decide +kernel
theorem d4_17 : decode prog_57_method_8_code 17 = .ok (.goto 4, 3) := by decide +kernel
theorem d4_20 : decode prog_57_method_8_code 20 = .ok (.iconst 0, 1) := by decide +kernel
theorem d4_21 : decode prog_57_method_8_code 21 = .ok (.ireturn, 1) := by decide +kernel
theorem pd_0 : parseMethodDescriptor "(I)Lcom/example/durable_coordinator/durablecoordinator/protocol/ApiKey;" = some ⟨[.int], some (.object "com/example/durable_coordinator/durablecoordinator/protocol/ApiKey")⟩ := by decide +kernel
theorem pd_1 : parseMethodDescriptor "(I)I" = some ⟨[.int], some .int⟩ := by decide +kernel
theorem pd_2 : parseMethodDescriptor "(S)Z" = some ⟨[.short], some .boolean⟩ := by decide +kernel

theorem own_b2 {g e : Int32} (h1 : g = 0 ∨ g = 1) (h2 : e = 0 ∨ e = 1) (q : g = 1 ↔ e = 1) : g = e := by
  rcases h1 with rfl | rfl <;> rcases h2 with rfl | rfl
  · rfl
  · exact absurd (q.mpr rfl) (by decide)
  · exact absurd (q.mp rfl) (by decide)
  · rfl
def loV (k : Int32) : Int32 := if k = 1 then 2 else if k = 2 then 1 else 0
def hiV (k : Int32) : Int32 := (if k = 0 then 13 else (if k = 1 then 9 else (if k = 2 then 9 else (if k = 3 then 6 else (if k = 4 then 9 else (if k = 5 then 4 else (if k = 6 then 5 else (if k = 7 then 5 else (if k = 8 then 4 else 1)))))))))
/-- one of the enum's objects, with its two bounds -/
def AK (Z : State) (h : Heap) (a : Addr) (lo hi : Int32) : Prop := Exa Z h a "com/example/durable_coordinator/durablecoordinator/protocol/ApiKey" ∧ Fld Z h a "com/example/durable_coordinator/durablecoordinator/protocol/ApiKey" "minVersion" "S" (.int lo) ∧ Fld Z h a "com/example/durable_coordinator/durablecoordinator/protocol/ApiKey" "maxVersion" "S" (.int hi)

theorem ef_rm1 (m : MethodId) (x0 : Int32) : entryFrame m #[(.int x0)] 1 = mkF m 0 #[.val (.int x0)] [] := by first | (simp [entryFrame, mkF, argsToLocals, Value.category]; done) | rfl
set_option maxRecDepth 65536 in
set_option maxHeartbeats 40000000 in
theorem rm1 (l : Launch) (Z : State) (a0 : Array Value) (hw : ∀ d ∈ tables_1, d.before a0 Z = true) (k : Int32) (p0 p1 p2 p3 p4 p5 p6 p7 p8 p9 : Addr) (h0 : Heap)  (S0 : Sta Z h0 "com/example/durable_coordinator/durablecoordinator/protocol/ApiKey" "METADATA" "Lcom/example/durable_coordinator/durablecoordinator/protocol/ApiKey;" (.ref p0)) (B0 : AK Z h0 p0 0 13) (S1 : Sta Z h0 "com/example/durable_coordinator/durablecoordinator/protocol/ApiKey" "OFFSET_COMMIT" "Lcom/example/durable_coordinator/durablecoordinator/protocol/ApiKey;" (.ref p1)) (B1 : AK Z h0 p1 2 9) (S2 : Sta Z h0 "com/example/durable_coordinator/durablecoordinator/protocol/ApiKey" "OFFSET_FETCH" "Lcom/example/durable_coordinator/durablecoordinator/protocol/ApiKey;" (.ref p2)) (B2 : AK Z h0 p2 1 9) (S3 : Sta Z h0 "com/example/durable_coordinator/durablecoordinator/protocol/ApiKey" "FIND_COORDINATOR" "Lcom/example/durable_coordinator/durablecoordinator/protocol/ApiKey;" (.ref p3)) (B3 : AK Z h0 p3 0 6) (S4 : Sta Z h0 "com/example/durable_coordinator/durablecoordinator/protocol/ApiKey" "JOIN_GROUP" "Lcom/example/durable_coordinator/durablecoordinator/protocol/ApiKey;" (.ref p4)) (B4 : AK Z h0 p4 0 9) (S5 : Sta Z h0 "com/example/durable_coordinator/durablecoordinator/protocol/ApiKey" "HEARTBEAT" "Lcom/example/durable_coordinator/durablecoordinator/protocol/ApiKey;" (.ref p5)) (B5 : AK Z h0 p5 0 4) (S6 : Sta Z h0 "com/example/durable_coordinator/durablecoordinator/protocol/ApiKey" "LEAVE_GROUP" "Lcom/example/durable_coordinator/durablecoordinator/protocol/ApiKey;" (.ref p6)) (B6 : AK Z h0 p6 0 5) (S7 : Sta Z h0 "com/example/durable_coordinator/durablecoordinator/protocol/ApiKey" "SYNC_GROUP" "Lcom/example/durable_coordinator/durablecoordinator/protocol/ApiKey;" (.ref p7)) (B7 : AK Z h0 p7 0 5) (S8 : Sta Z h0 "com/example/durable_coordinator/durablecoordinator/protocol/ApiKey" "API_VERSIONS" "Lcom/example/durable_coordinator/durablecoordinator/protocol/ApiKey;" (.ref p8)) (B8 : AK Z h0 p8 0 4) (S9 : Sta Z h0 "com/example/durable_coordinator/durablecoordinator/protocol/ApiKey" "CONSUMER_GROUP_HEARTBEAT" "Lcom/example/durable_coordinator/durablecoordinator/protocol/ApiKey;" (.ref p9)) (B9 : AK Z h0 p9 0 1) :
    Met l Z (⟨"com/example/durable_coordinator/durablecoordinator/protocol/ApiKeyServesPinLaw", "pick", "(I)Lcom/example/durable_coordinator/durablecoordinator/protocol/ApiKey;"⟩ : MethodName) method_2_code 1 (some (.object "com/example/durable_coordinator/durablecoordinator/protocol/ApiKey")) ({ frames := 0, cells := 0, slots := 0, locals := 0 } : Room) #[(.int k)] h0 (fun v h L => ∃ a, v = some (.ref a) ∧ AK Z h0 a (loV k) (hiV k) ∧ L = [] ∧ h = h0) := by
  refine Met.intro (plainFor_of_name (by first | (simp [plainName, overriddenIn]; done) | decide +kernel)) ?_
  intro p e s m below meth c T0 hx hby hml hown hnm hret hlk hZ X0 e0
  refine Go.cast (ef_rm1 m k) ?_
  refine Go.back (f' := (mkF m 1 #[.val (.int k)] [(.int k)])) (fun _ k => XS.iloadN X0.here hx rfl (hb hby d1_0) rfl k) ?_
  by_cases k0 : k = 0
  · refine Go.back (f' := (mkF m 4 #[.val (.int k)] [])) (fun _ k => XS.ifNo X0.here hx rfl (hb hby d1_1) rfl ((if0 _ _).trans (teq k0).2) k) ?_
    obtain ⟨T1, X1, e1, st1⟩ := getS2 X0 hx hZ hown (host := "") (Or.inl (hw _ (List.mem_of_getElem? (i := 5) rfl))) Via.refl e0 S0 (g := (mkF m 4 #[.val (.int k)] [])) rfl (hb hby d1_4)
    refine Go.back (f' := (mkF m 7 #[.val (.int k)] [(.ref p0)])) st1 ?_
    exact Go.retA X1 hx hret hlk (hb hby d1_7) rfl rfl (by (try rw [e1]); exact ⟨p0, rfl, (by have e1 : loV k = 0 := (by simp [loV, k0]); have e2 : hiV k = 13 := (by simp [hiV, k0]); rw [e1, e2]; exact B0), rfl, rfl⟩) (Nat.zero_le _) (Nat.zero_le _)
  · refine Go.back (f' := (mkF m 8 #[.val (.int k)] [])) (fun _ k => XS.ifYes X0.here hx rfl (pc0 := 1) (pc' := 8) rfl (hb hby d1_1) rfl ((if0 _ _).trans (feq k0).2) (by decide) (by decide) k) ?_
    refine Go.back (f' := (mkF m 9 #[.val (.int k)] [(.int k)])) (fun _ k => XS.iloadN X0.here hx rfl (hb hby d1_8) rfl k) ?_
    refine Go.back (f' := (mkF m 10 #[.val (.int k)] [(.int (1 : Int32)), (.int k)])) (fun _ k => XS.iconst X0.here hx rfl (hb hby d1_9) k) ?_
    by_cases k1 : k = (1 : Int32)
    · refine Go.back (f' := (mkF m 13 #[.val (.int k)] [])) (fun _ k => XS.icmpNo X0.here hx rfl (hb hby d1_10) rfl (teq k1).2 k) ?_
      obtain ⟨T2, X2, e2, st2⟩ := getS2 X0 hx hZ hown (host := "") (Or.inl (hw _ (List.mem_of_getElem? (i := 23) rfl))) Via.refl e0 S1 (g := (mkF m 13 #[.val (.int k)] [])) rfl (hb hby d1_13)
      refine Go.back (f' := (mkF m 16 #[.val (.int k)] [(.ref p1)])) st2 ?_
      exact Go.retA X2 hx hret hlk (hb hby d1_16) rfl rfl (by (try rw [e2]); exact ⟨p1, rfl, (by have e1 : loV k = 2 := (by simp [loV, k0, k1]); have e2 : hiV k = 9 := (by simp [hiV, k0, k1]); rw [e1, e2]; exact B1), rfl, rfl⟩) (Nat.zero_le _) (Nat.zero_le _)
    · refine Go.back (f' := (mkF m 17 #[.val (.int k)] [])) (fun _ k => XS.icmpYes X0.here hx rfl (pc0 := 10) (pc' := 17) rfl (hb hby d1_10) rfl (feq k1).2 (by decide) (by decide) k) ?_
      refine Go.back (f' := (mkF m 18 #[.val (.int k)] [(.int k)])) (fun _ k => XS.iloadN X0.here hx rfl (hb hby d1_17) rfl k) ?_
      refine Go.back (f' := (mkF m 19 #[.val (.int k)] [(.int (2 : Int32)), (.int k)])) (fun _ k => XS.iconst X0.here hx rfl (hb hby d1_18) k) ?_
      by_cases k2 : k = (2 : Int32)
      · refine Go.back (f' := (mkF m 22 #[.val (.int k)] [])) (fun _ k => XS.icmpNo X0.here hx rfl (hb hby d1_19) rfl (teq k2).2 k) ?_
        obtain ⟨T3, X3, e3, st3⟩ := getS2 X0 hx hZ hown (host := "") (Or.inl (hw _ (List.mem_of_getElem? (i := 39) rfl))) Via.refl e0 S2 (g := (mkF m 22 #[.val (.int k)] [])) rfl (hb hby d1_22)
        refine Go.back (f' := (mkF m 25 #[.val (.int k)] [(.ref p2)])) st3 ?_
        exact Go.retA X3 hx hret hlk (hb hby d1_25) rfl rfl (by (try rw [e3]); exact ⟨p2, rfl, (by have e1 : loV k = 1 := (by simp [loV, k0, k1, k2]); have e2 : hiV k = 9 := (by simp [hiV, k0, k1, k2]); rw [e1, e2]; exact B2), rfl, rfl⟩) (Nat.zero_le _) (Nat.zero_le _)
      · refine Go.back (f' := (mkF m 26 #[.val (.int k)] [])) (fun _ k => XS.icmpYes X0.here hx rfl (pc0 := 19) (pc' := 26) rfl (hb hby d1_19) rfl (feq k2).2 (by decide) (by decide) k) ?_
        refine Go.back (f' := (mkF m 27 #[.val (.int k)] [(.int k)])) (fun _ k => XS.iloadN X0.here hx rfl (hb hby d1_26) rfl k) ?_
        refine Go.back (f' := (mkF m 28 #[.val (.int k)] [(.int (3 : Int32)), (.int k)])) (fun _ k => XS.iconst X0.here hx rfl (hb hby d1_27) k) ?_
        by_cases k3 : k = (3 : Int32)
        · refine Go.back (f' := (mkF m 31 #[.val (.int k)] [])) (fun _ k => XS.icmpNo X0.here hx rfl (hb hby d1_28) rfl (teq k3).2 k) ?_
          obtain ⟨T4, X4, e4, st4⟩ := getS2 X0 hx hZ hown (host := "") (Or.inl (hw _ (List.mem_of_getElem? (i := 31) rfl))) Via.refl e0 S3 (g := (mkF m 31 #[.val (.int k)] [])) rfl (hb hby d1_31)
          refine Go.back (f' := (mkF m 34 #[.val (.int k)] [(.ref p3)])) st4 ?_
          exact Go.retA X4 hx hret hlk (hb hby d1_34) rfl rfl (by (try rw [e4]); exact ⟨p3, rfl, (by have e1 : loV k = 0 := (by simp [loV, k0, k1, k2, k3]); have e2 : hiV k = 6 := (by simp [hiV, k0, k1, k2, k3]); rw [e1, e2]; exact B3), rfl, rfl⟩) (Nat.zero_le _) (Nat.zero_le _)
        · refine Go.back (f' := (mkF m 35 #[.val (.int k)] [])) (fun _ k => XS.icmpYes X0.here hx rfl (pc0 := 28) (pc' := 35) rfl (hb hby d1_28) rfl (feq k3).2 (by decide) (by decide) k) ?_
          refine Go.back (f' := (mkF m 36 #[.val (.int k)] [(.int k)])) (fun _ k => XS.iloadN X0.here hx rfl (hb hby d1_35) rfl k) ?_
          refine Go.back (f' := (mkF m 37 #[.val (.int k)] [(.int (4 : Int32)), (.int k)])) (fun _ k => XS.iconst X0.here hx rfl (hb hby d1_36) k) ?_
          by_cases k4 : k = (4 : Int32)
          · refine Go.back (f' := (mkF m 40 #[.val (.int k)] [])) (fun _ k => XS.icmpNo X0.here hx rfl (hb hby d1_37) rfl (teq k4).2 k) ?_
            obtain ⟨T5, X5, e5, st5⟩ := getS2 X0 hx hZ hown (host := "") (Or.inl (hw _ (List.mem_of_getElem? (i := 25) rfl))) Via.refl e0 S4 (g := (mkF m 40 #[.val (.int k)] [])) rfl (hb hby d1_40)
            refine Go.back (f' := (mkF m 43 #[.val (.int k)] [(.ref p4)])) st5 ?_
            exact Go.retA X5 hx hret hlk (hb hby d1_43) rfl rfl (by (try rw [e5]); exact ⟨p4, rfl, (by have e1 : loV k = 0 := (by simp [loV, k0, k1, k2, k3, k4]); have e2 : hiV k = 9 := (by simp [hiV, k0, k1, k2, k3, k4]); rw [e1, e2]; exact B4), rfl, rfl⟩) (Nat.zero_le _) (Nat.zero_le _)
          · refine Go.back (f' := (mkF m 44 #[.val (.int k)] [])) (fun _ k => XS.icmpYes X0.here hx rfl (pc0 := 37) (pc' := 44) rfl (hb hby d1_37) rfl (feq k4).2 (by decide) (by decide) k) ?_
            refine Go.back (f' := (mkF m 45 #[.val (.int k)] [(.int k)])) (fun _ k => XS.iloadN X0.here hx rfl (hb hby d1_44) rfl k) ?_
            refine Go.back (f' := (mkF m 46 #[.val (.int k)] [(.int (5 : Int32)), (.int k)])) (fun _ k => XS.iconst X0.here hx rfl (hb hby d1_45) k) ?_
            by_cases k5 : k = (5 : Int32)
            · refine Go.back (f' := (mkF m 49 #[.val (.int k)] [])) (fun _ k => XS.icmpNo X0.here hx rfl (hb hby d1_46) rfl (teq k5).2 k) ?_
              obtain ⟨T6, X6, e6, st6⟩ := getS2 X0 hx hZ hown (host := "") (Or.inl (hw _ (List.mem_of_getElem? (i := 27) rfl))) Via.refl e0 S5 (g := (mkF m 49 #[.val (.int k)] [])) rfl (hb hby d1_49)
              refine Go.back (f' := (mkF m 52 #[.val (.int k)] [(.ref p5)])) st6 ?_
              exact Go.retA X6 hx hret hlk (hb hby d1_52) rfl rfl (by (try rw [e6]); exact ⟨p5, rfl, (by have e1 : loV k = 0 := (by simp [loV, k0, k1, k2, k3, k4, k5]); have e2 : hiV k = 4 := (by simp [hiV, k0, k1, k2, k3, k4, k5]); rw [e1, e2]; exact B5), rfl, rfl⟩) (Nat.zero_le _) (Nat.zero_le _)
            · refine Go.back (f' := (mkF m 53 #[.val (.int k)] [])) (fun _ k => XS.icmpYes X0.here hx rfl (pc0 := 46) (pc' := 53) rfl (hb hby d1_46) rfl (feq k5).2 (by decide) (by decide) k) ?_
              refine Go.back (f' := (mkF m 54 #[.val (.int k)] [(.int k)])) (fun _ k => XS.iloadN X0.here hx rfl (hb hby d1_53) rfl k) ?_
              refine Go.back (f' := (mkF m 56 #[.val (.int k)] [(.int (6 : Int32)), (.int k)])) (fun _ k => XS.bipush X0.here hx rfl (hb hby d1_54) k) ?_
              by_cases k6 : k = (6 : Int32)
              · refine Go.back (f' := (mkF m 59 #[.val (.int k)] [])) (fun _ k => XS.icmpNo X0.here hx rfl (hb hby d1_56) rfl (teq k6).2 k) ?_
                obtain ⟨T7, X7, e7, st7⟩ := getS2 X0 hx hZ hown (host := "") (Or.inl (hw _ (List.mem_of_getElem? (i := 33) rfl))) Via.refl e0 S6 (g := (mkF m 59 #[.val (.int k)] [])) rfl (hb hby d1_59)
                refine Go.back (f' := (mkF m 62 #[.val (.int k)] [(.ref p6)])) st7 ?_
                exact Go.retA X7 hx hret hlk (hb hby d1_62) rfl rfl (by (try rw [e7]); exact ⟨p6, rfl, (by have e1 : loV k = 0 := (by simp [loV, k0, k1, k2, k3, k4, k5, k6]); have e2 : hiV k = 5 := (by simp [hiV, k0, k1, k2, k3, k4, k5, k6]); rw [e1, e2]; exact B6), rfl, rfl⟩) (Nat.zero_le _) (Nat.zero_le _)
              · refine Go.back (f' := (mkF m 63 #[.val (.int k)] [])) (fun _ k => XS.icmpYes X0.here hx rfl (pc0 := 56) (pc' := 63) rfl (hb hby d1_56) rfl (feq k6).2 (by decide) (by decide) k) ?_
                refine Go.back (f' := (mkF m 64 #[.val (.int k)] [(.int k)])) (fun _ k => XS.iloadN X0.here hx rfl (hb hby d1_63) rfl k) ?_
                refine Go.back (f' := (mkF m 66 #[.val (.int k)] [(.int (7 : Int32)), (.int k)])) (fun _ k => XS.bipush X0.here hx rfl (hb hby d1_64) k) ?_
                by_cases k7 : k = (7 : Int32)
                · refine Go.back (f' := (mkF m 69 #[.val (.int k)] [])) (fun _ k => XS.icmpNo X0.here hx rfl (hb hby d1_66) rfl (teq k7).2 k) ?_
                  obtain ⟨T8, X8, e8, st8⟩ := getS2 X0 hx hZ hown (host := "") (Or.inl (hw _ (List.mem_of_getElem? (i := 35) rfl))) Via.refl e0 S7 (g := (mkF m 69 #[.val (.int k)] [])) rfl (hb hby d1_69)
                  refine Go.back (f' := (mkF m 72 #[.val (.int k)] [(.ref p7)])) st8 ?_
                  exact Go.retA X8 hx hret hlk (hb hby d1_72) rfl rfl (by (try rw [e8]); exact ⟨p7, rfl, (by have e1 : loV k = 0 := (by simp [loV, k0, k1, k2, k3, k4, k5, k6, k7]); have e2 : hiV k = 5 := (by simp [hiV, k0, k1, k2, k3, k4, k5, k6, k7]); rw [e1, e2]; exact B7), rfl, rfl⟩) (Nat.zero_le _) (Nat.zero_le _)
                · refine Go.back (f' := (mkF m 73 #[.val (.int k)] [])) (fun _ k => XS.icmpYes X0.here hx rfl (pc0 := 66) (pc' := 73) rfl (hb hby d1_66) rfl (feq k7).2 (by decide) (by decide) k) ?_
                  refine Go.back (f' := (mkF m 74 #[.val (.int k)] [(.int k)])) (fun _ k => XS.iloadN X0.here hx rfl (hb hby d1_73) rfl k) ?_
                  refine Go.back (f' := (mkF m 76 #[.val (.int k)] [(.int (8 : Int32)), (.int k)])) (fun _ k => XS.bipush X0.here hx rfl (hb hby d1_74) k) ?_
                  by_cases k8 : k = (8 : Int32)
                  · refine Go.back (f' := (mkF m 79 #[.val (.int k)] [])) (fun _ k => XS.icmpNo X0.here hx rfl (hb hby d1_76) rfl (teq k8).2 k) ?_
                    obtain ⟨T9, X9, e9, st9⟩ := getS2 X0 hx hZ hown (host := "") (Or.inl (hw _ (List.mem_of_getElem? (i := 29) rfl))) Via.refl e0 S8 (g := (mkF m 79 #[.val (.int k)] [])) rfl (hb hby d1_79)
                    refine Go.back (f' := (mkF m 82 #[.val (.int k)] [(.ref p8)])) st9 ?_
                    exact Go.retA X9 hx hret hlk (hb hby d1_82) rfl rfl (by (try rw [e9]); exact ⟨p8, rfl, (by have e1 : loV k = 0 := (by simp [loV, k0, k1, k2, k3, k4, k5, k6, k7, k8]); have e2 : hiV k = 4 := (by simp [hiV, k0, k1, k2, k3, k4, k5, k6, k7, k8]); rw [e1, e2]; exact B8), rfl, rfl⟩) (Nat.zero_le _) (Nat.zero_le _)
                  · refine Go.back (f' := (mkF m 83 #[.val (.int k)] [])) (fun _ k => XS.icmpYes X0.here hx rfl (pc0 := 76) (pc' := 83) rfl (hb hby d1_76) rfl (feq k8).2 (by decide) (by decide) k) ?_
                    obtain ⟨T10, X10, e10, st10⟩ := getS2 X0 hx hZ hown (host := "") (Or.inl (hw _ (List.mem_of_getElem? (i := 37) rfl))) Via.refl e0 S9 (g := (mkF m 83 #[.val (.int k)] [])) rfl (hb hby d1_83)
                    refine Go.back (f' := (mkF m 86 #[.val (.int k)] [(.ref p9)])) st10 ?_
                    exact Go.retA X10 hx hret hlk (hb hby d1_86) rfl rfl (by (try rw [e10]); exact ⟨p9, rfl, (by have e1 : loV k = 0 := (by simp [loV, k0, k1, k2, k3, k4, k5, k6, k7, k8]); have e2 : hiV k = 1 := (by simp [hiV, k0, k1, k2, k3, k4, k5, k6, k7, k8]); rw [e1, e2]; exact B9), rfl, rfl⟩) (Nat.zero_le _) (Nat.zero_le _)
theorem ef_rm2 (m : MethodId) (x0 : Int32) : entryFrame m #[(.int x0)] 1 = mkF m 0 #[.val (.int x0)] [] := by first | (simp [entryFrame, mkF, argsToLocals, Value.category]; done) | rfl
set_option maxRecDepth 65536 in
set_option maxHeartbeats 40000000 in
theorem rm2 (l : Launch) (Z : State) (a0 : Array Value) (hw : ∀ d ∈ tables_1, d.before a0 Z = true) (k : Int32) (h0 : Heap)  :
    Met l Z (⟨"com/example/durable_coordinator/durablecoordinator/protocol/ApiKeyServesPinLaw", "lo", "(I)I"⟩ : MethodName) method_3_code 1 (some .int) ({ frames := 0, cells := 0, slots := 0, locals := 0 } : Room) #[(.int k)] h0 (fun v h L => v = some (.int (loV k)) ∧ L = [] ∧ h = h0) := by
  refine Met.intro (plainFor_of_name (by first | (simp [plainName, overriddenIn]; done) | decide +kernel)) ?_
  intro p e s m below meth c T0 hx hby hml hown hnm hret hlk hZ X0 e0
  refine Go.cast (ef_rm2 m k) ?_
  refine Go.back (f' := (mkF m 1 #[.val (.int k)] [(.int k)])) (fun _ k => XS.iloadN X0.here hx rfl (hb hby d2_0) rfl k) ?_
  refine Go.back (f' := (mkF m 2 #[.val (.int k)] [(.int (1 : Int32)), (.int k)])) (fun _ k => XS.iconst X0.here hx rfl (hb hby d2_1) k) ?_
  by_cases k0 : k = (1 : Int32)
  · refine Go.back (f' := (mkF m 5 #[.val (.int k)] [])) (fun _ k => XS.icmpNo X0.here hx rfl (hb hby d2_2) rfl (teq k0).2 k) ?_
    refine Go.back (f' := (mkF m 6 #[.val (.int k)] [(.int (2 : Int32))])) (fun _ k => XS.iconst X0.here hx rfl (hb hby d2_5) k) ?_
    exact Go.retI X0 hx hret hlk (hb hby d2_6) (by (try rw [e0]); exact ⟨by simp [loV, k0], rfl, rfl⟩) (Nat.zero_le _) (Nat.zero_le _)
  · refine Go.back (f' := (mkF m 7 #[.val (.int k)] [])) (fun _ k => XS.icmpYes X0.here hx rfl (pc0 := 2) (pc' := 7) rfl (hb hby d2_2) rfl (feq k0).2 (by decide) (by decide) k) ?_
    refine Go.back (f' := (mkF m 8 #[.val (.int k)] [(.int k)])) (fun _ k => XS.iloadN X0.here hx rfl (hb hby d2_7) rfl k) ?_
    refine Go.back (f' := (mkF m 9 #[.val (.int k)] [(.int (2 : Int32)), (.int k)])) (fun _ k => XS.iconst X0.here hx rfl (hb hby d2_8) k) ?_
    by_cases k1 : k = (2 : Int32)
    · refine Go.back (f' := (mkF m 12 #[.val (.int k)] [])) (fun _ k => XS.icmpNo X0.here hx rfl (hb hby d2_9) rfl (teq k1).2 k) ?_
      refine Go.back (f' := (mkF m 13 #[.val (.int k)] [(.int (1 : Int32))])) (fun _ k => XS.iconst X0.here hx rfl (hb hby d2_12) k) ?_
      exact Go.retI X0 hx hret hlk (hb hby d2_13) (by (try rw [e0]); exact ⟨by simp [loV, k0, k1], rfl, rfl⟩) (Nat.zero_le _) (Nat.zero_le _)
    · refine Go.back (f' := (mkF m 14 #[.val (.int k)] [])) (fun _ k => XS.icmpYes X0.here hx rfl (pc0 := 9) (pc' := 14) rfl (hb hby d2_9) rfl (feq k1).2 (by decide) (by decide) k) ?_
      refine Go.back (f' := (mkF m 15 #[.val (.int k)] [(.int (0 : Int32))])) (fun _ k => XS.iconst X0.here hx rfl (hb hby d2_14) k) ?_
      exact Go.retI X0 hx hret hlk (hb hby d2_15) (by (try rw [e0]); exact ⟨by simp [loV, k0, k1], rfl, rfl⟩) (Nat.zero_le _) (Nat.zero_le _)
theorem ef_rm3 (m : MethodId) (x0 : Int32) : entryFrame m #[(.int x0)] 1 = mkF m 0 #[.val (.int x0)] [] := by first | (simp [entryFrame, mkF, argsToLocals, Value.category]; done) | rfl
set_option maxRecDepth 65536 in
set_option maxHeartbeats 40000000 in
theorem rm3 (l : Launch) (Z : State) (a0 : Array Value) (hw : ∀ d ∈ tables_1, d.before a0 Z = true) (k : Int32) (h0 : Heap)  :
    Met l Z (⟨"com/example/durable_coordinator/durablecoordinator/protocol/ApiKeyServesPinLaw", "hi", "(I)I"⟩ : MethodName) method_4_code 1 (some .int) ({ frames := 0, cells := 0, slots := 0, locals := 0 } : Room) #[(.int k)] h0 (fun v h L => v = some (.int (hiV k)) ∧ L = [] ∧ h = h0) := by
  refine Met.intro (plainFor_of_name (by first | (simp [plainName, overriddenIn]; done) | decide +kernel)) ?_
  intro p e s m below meth c T0 hx hby hml hown hnm hret hlk hZ X0 e0
  refine Go.cast (ef_rm3 m k) ?_
  refine Go.back (f' := (mkF m 1 #[.val (.int k)] [(.int k)])) (fun _ k => XS.iloadN X0.here hx rfl (hb hby d3_0) rfl k) ?_
  by_cases k0 : k = 0
  · refine Go.back (f' := (mkF m 4 #[.val (.int k)] [])) (fun _ k => XS.ifNo X0.here hx rfl (hb hby d3_1) rfl ((if0 _ _).trans (teq k0).2) k) ?_
    refine Go.back (f' := (mkF m 6 #[.val (.int k)] [(.int (13 : Int32))])) (fun _ k => XS.bipush X0.here hx rfl (hb hby d3_4) k) ?_
    exact Go.retI X0 hx hret hlk (hb hby d3_6) (by (try rw [e0]); exact ⟨by simp [hiV, k0], rfl, rfl⟩) (Nat.zero_le _) (Nat.zero_le _)
  · refine Go.back (f' := (mkF m 7 #[.val (.int k)] [])) (fun _ k => XS.ifYes X0.here hx rfl (pc0 := 1) (pc' := 7) rfl (hb hby d3_1) rfl ((if0 _ _).trans (feq k0).2) (by decide) (by decide) k) ?_
    refine Go.back (f' := (mkF m 8 #[.val (.int k)] [(.int k)])) (fun _ k => XS.iloadN X0.here hx rfl (hb hby d3_7) rfl k) ?_
    refine Go.back (f' := (mkF m 9 #[.val (.int k)] [(.int (1 : Int32)), (.int k)])) (fun _ k => XS.iconst X0.here hx rfl (hb hby d3_8) k) ?_
    by_cases k1 : k = (1 : Int32)
    · refine Go.back (f' := (mkF m 12 #[.val (.int k)] [])) (fun _ k => XS.icmpNo X0.here hx rfl (hb hby d3_9) rfl (teq k1).2 k) ?_
      refine Go.back (f' := (mkF m 14 #[.val (.int k)] [(.int (9 : Int32))])) (fun _ k => XS.bipush X0.here hx rfl (hb hby d3_12) k) ?_
      exact Go.retI X0 hx hret hlk (hb hby d3_14) (by (try rw [e0]); exact ⟨by simp [hiV, k0, k1], rfl, rfl⟩) (Nat.zero_le _) (Nat.zero_le _)
    · refine Go.back (f' := (mkF m 15 #[.val (.int k)] [])) (fun _ k => XS.icmpYes X0.here hx rfl (pc0 := 9) (pc' := 15) rfl (hb hby d3_9) rfl (feq k1).2 (by decide) (by decide) k) ?_
      refine Go.back (f' := (mkF m 16 #[.val (.int k)] [(.int k)])) (fun _ k => XS.iloadN X0.here hx rfl (hb hby d3_15) rfl k) ?_
      refine Go.back (f' := (mkF m 17 #[.val (.int k)] [(.int (2 : Int32)), (.int k)])) (fun _ k => XS.iconst X0.here hx rfl (hb hby d3_16) k) ?_
      by_cases k2 : k = (2 : Int32)
      · refine Go.back (f' := (mkF m 20 #[.val (.int k)] [])) (fun _ k => XS.icmpNo X0.here hx rfl (hb hby d3_17) rfl (teq k2).2 k) ?_
        refine Go.back (f' := (mkF m 22 #[.val (.int k)] [(.int (9 : Int32))])) (fun _ k => XS.bipush X0.here hx rfl (hb hby d3_20) k) ?_
        exact Go.retI X0 hx hret hlk (hb hby d3_22) (by (try rw [e0]); exact ⟨by simp [hiV, k0, k1, k2], rfl, rfl⟩) (Nat.zero_le _) (Nat.zero_le _)
      · refine Go.back (f' := (mkF m 23 #[.val (.int k)] [])) (fun _ k => XS.icmpYes X0.here hx rfl (pc0 := 17) (pc' := 23) rfl (hb hby d3_17) rfl (feq k2).2 (by decide) (by decide) k) ?_
        refine Go.back (f' := (mkF m 24 #[.val (.int k)] [(.int k)])) (fun _ k => XS.iloadN X0.here hx rfl (hb hby d3_23) rfl k) ?_
        refine Go.back (f' := (mkF m 25 #[.val (.int k)] [(.int (3 : Int32)), (.int k)])) (fun _ k => XS.iconst X0.here hx rfl (hb hby d3_24) k) ?_
        by_cases k3 : k = (3 : Int32)
        · refine Go.back (f' := (mkF m 28 #[.val (.int k)] [])) (fun _ k => XS.icmpNo X0.here hx rfl (hb hby d3_25) rfl (teq k3).2 k) ?_
          refine Go.back (f' := (mkF m 30 #[.val (.int k)] [(.int (6 : Int32))])) (fun _ k => XS.bipush X0.here hx rfl (hb hby d3_28) k) ?_
          exact Go.retI X0 hx hret hlk (hb hby d3_30) (by (try rw [e0]); exact ⟨by simp [hiV, k0, k1, k2, k3], rfl, rfl⟩) (Nat.zero_le _) (Nat.zero_le _)
        · refine Go.back (f' := (mkF m 31 #[.val (.int k)] [])) (fun _ k => XS.icmpYes X0.here hx rfl (pc0 := 25) (pc' := 31) rfl (hb hby d3_25) rfl (feq k3).2 (by decide) (by decide) k) ?_
          refine Go.back (f' := (mkF m 32 #[.val (.int k)] [(.int k)])) (fun _ k => XS.iloadN X0.here hx rfl (hb hby d3_31) rfl k) ?_
          refine Go.back (f' := (mkF m 33 #[.val (.int k)] [(.int (4 : Int32)), (.int k)])) (fun _ k => XS.iconst X0.here hx rfl (hb hby d3_32) k) ?_
          by_cases k4 : k = (4 : Int32)
          · refine Go.back (f' := (mkF m 36 #[.val (.int k)] [])) (fun _ k => XS.icmpNo X0.here hx rfl (hb hby d3_33) rfl (teq k4).2 k) ?_
            refine Go.back (f' := (mkF m 38 #[.val (.int k)] [(.int (9 : Int32))])) (fun _ k => XS.bipush X0.here hx rfl (hb hby d3_36) k) ?_
            exact Go.retI X0 hx hret hlk (hb hby d3_38) (by (try rw [e0]); exact ⟨by simp [hiV, k0, k1, k2, k3, k4], rfl, rfl⟩) (Nat.zero_le _) (Nat.zero_le _)
          · refine Go.back (f' := (mkF m 39 #[.val (.int k)] [])) (fun _ k => XS.icmpYes X0.here hx rfl (pc0 := 33) (pc' := 39) rfl (hb hby d3_33) rfl (feq k4).2 (by decide) (by decide) k) ?_
            refine Go.back (f' := (mkF m 40 #[.val (.int k)] [(.int k)])) (fun _ k => XS.iloadN X0.here hx rfl (hb hby d3_39) rfl k) ?_
            refine Go.back (f' := (mkF m 41 #[.val (.int k)] [(.int (5 : Int32)), (.int k)])) (fun _ k => XS.iconst X0.here hx rfl (hb hby d3_40) k) ?_
            by_cases k5 : k = (5 : Int32)
            · refine Go.back (f' := (mkF m 44 #[.val (.int k)] [])) (fun _ k => XS.icmpNo X0.here hx rfl (hb hby d3_41) rfl (teq k5).2 k) ?_
              refine Go.back (f' := (mkF m 45 #[.val (.int k)] [(.int (4 : Int32))])) (fun _ k => XS.iconst X0.here hx rfl (hb hby d3_44) k) ?_
              exact Go.retI X0 hx hret hlk (hb hby d3_45) (by (try rw [e0]); exact ⟨by simp [hiV, k0, k1, k2, k3, k4, k5], rfl, rfl⟩) (Nat.zero_le _) (Nat.zero_le _)
            · refine Go.back (f' := (mkF m 46 #[.val (.int k)] [])) (fun _ k => XS.icmpYes X0.here hx rfl (pc0 := 41) (pc' := 46) rfl (hb hby d3_41) rfl (feq k5).2 (by decide) (by decide) k) ?_
              refine Go.back (f' := (mkF m 47 #[.val (.int k)] [(.int k)])) (fun _ k => XS.iloadN X0.here hx rfl (hb hby d3_46) rfl k) ?_
              refine Go.back (f' := (mkF m 49 #[.val (.int k)] [(.int (6 : Int32)), (.int k)])) (fun _ k => XS.bipush X0.here hx rfl (hb hby d3_47) k) ?_
              by_cases k6 : k = (6 : Int32)
              · refine Go.back (f' := (mkF m 52 #[.val (.int k)] [])) (fun _ k => XS.icmpNo X0.here hx rfl (hb hby d3_49) rfl (teq k6).2 k) ?_
                refine Go.back (f' := (mkF m 53 #[.val (.int k)] [(.int (5 : Int32))])) (fun _ k => XS.iconst X0.here hx rfl (hb hby d3_52) k) ?_
                exact Go.retI X0 hx hret hlk (hb hby d3_53) (by (try rw [e0]); exact ⟨by simp [hiV, k0, k1, k2, k3, k4, k5, k6], rfl, rfl⟩) (Nat.zero_le _) (Nat.zero_le _)
              · refine Go.back (f' := (mkF m 54 #[.val (.int k)] [])) (fun _ k => XS.icmpYes X0.here hx rfl (pc0 := 49) (pc' := 54) rfl (hb hby d3_49) rfl (feq k6).2 (by decide) (by decide) k) ?_
                refine Go.back (f' := (mkF m 55 #[.val (.int k)] [(.int k)])) (fun _ k => XS.iloadN X0.here hx rfl (hb hby d3_54) rfl k) ?_
                refine Go.back (f' := (mkF m 57 #[.val (.int k)] [(.int (7 : Int32)), (.int k)])) (fun _ k => XS.bipush X0.here hx rfl (hb hby d3_55) k) ?_
                by_cases k7 : k = (7 : Int32)
                · refine Go.back (f' := (mkF m 60 #[.val (.int k)] [])) (fun _ k => XS.icmpNo X0.here hx rfl (hb hby d3_57) rfl (teq k7).2 k) ?_
                  refine Go.back (f' := (mkF m 61 #[.val (.int k)] [(.int (5 : Int32))])) (fun _ k => XS.iconst X0.here hx rfl (hb hby d3_60) k) ?_
                  exact Go.retI X0 hx hret hlk (hb hby d3_61) (by (try rw [e0]); exact ⟨by simp [hiV, k0, k1, k2, k3, k4, k5, k6, k7], rfl, rfl⟩) (Nat.zero_le _) (Nat.zero_le _)
                · refine Go.back (f' := (mkF m 62 #[.val (.int k)] [])) (fun _ k => XS.icmpYes X0.here hx rfl (pc0 := 57) (pc' := 62) rfl (hb hby d3_57) rfl (feq k7).2 (by decide) (by decide) k) ?_
                  refine Go.back (f' := (mkF m 63 #[.val (.int k)] [(.int k)])) (fun _ k => XS.iloadN X0.here hx rfl (hb hby d3_62) rfl k) ?_
                  refine Go.back (f' := (mkF m 65 #[.val (.int k)] [(.int (8 : Int32)), (.int k)])) (fun _ k => XS.bipush X0.here hx rfl (hb hby d3_63) k) ?_
                  by_cases k8 : k = (8 : Int32)
                  · refine Go.back (f' := (mkF m 68 #[.val (.int k)] [])) (fun _ k => XS.icmpNo X0.here hx rfl (hb hby d3_65) rfl (teq k8).2 k) ?_
                    refine Go.back (f' := (mkF m 69 #[.val (.int k)] [(.int (4 : Int32))])) (fun _ k => XS.iconst X0.here hx rfl (hb hby d3_68) k) ?_
                    exact Go.retI X0 hx hret hlk (hb hby d3_69) (by (try rw [e0]); exact ⟨by simp [hiV, k0, k1, k2, k3, k4, k5, k6, k7, k8], rfl, rfl⟩) (Nat.zero_le _) (Nat.zero_le _)
                  · refine Go.back (f' := (mkF m 70 #[.val (.int k)] [])) (fun _ k => XS.icmpYes X0.here hx rfl (pc0 := 65) (pc' := 70) rfl (hb hby d3_65) rfl (feq k8).2 (by decide) (by decide) k) ?_
                    refine Go.back (f' := (mkF m 71 #[.val (.int k)] [(.int (1 : Int32))])) (fun _ k => XS.iconst X0.here hx rfl (hb hby d3_70) k) ?_
                    exact Go.retI X0 hx hret hlk (hb hby d3_71) (by (try rw [e0]); exact ⟨by simp [hiV, k0, k1, k2, k3, k4, k5, k6, k7, k8], rfl, rfl⟩) (Nat.zero_le _) (Nat.zero_le _)
theorem ef_rm4 (m : MethodId) (x0 : Addr) (x1 : Int32) : entryFrame m #[(.ref x0), (.int x1)] 2 = mkF m 0 #[.val (.ref x0), .val (.int x1)] [] := by first | (simp [entryFrame, mkF, argsToLocals, Value.category]; done) | rfl
set_option maxRecDepth 65536 in
set_option maxHeartbeats 40000000 in
theorem rm4 (l : Launch) (Z : State) (a0 : Array Value) (hw : ∀ d ∈ tables_1, d.before a0 Z = true) (a1 : Addr) (lo hi vv : Int32) (h0 : Heap) (F1 : Fld Z h0 a1 "com/example/durable_coordinator/durablecoordinator/protocol/ApiKey" "minVersion" "S" (.int lo)) (F2 : Fld Z h0 a1 "com/example/durable_coordinator/durablecoordinator/protocol/ApiKey" "maxVersion" "S" (.int hi)) :
    Met l Z (⟨"com/example/durable_coordinator/durablecoordinator/protocol/ApiKey", "serves", "(S)Z"⟩ : MethodName) prog_57_method_8_code 2 (some .boolean) ({ frames := 0, cells := 0, slots := 0, locals := 0 } : Room) #[(.ref a1), (.int vv)] h0 (fun v h L => ∃ g : Int32, v = some (.int g) ∧ (g = 0 ∨ g = 1) ∧ (g = 1 ↔ (¬ vv < lo ∧ ¬ hi < vv)) ∧ L = [] ∧ h = h0) := by
  refine Met.intro (plainFor_of_name (by first | (simp [plainName, overriddenIn]; done) | decide +kernel)) ?_
  intro p e s m below meth c T0 hx hby hml hown hnm hret hlk hZ X0 e0
  refine Go.cast (ef_rm4 m a1 vv) ?_
  refine Go.back (f' := (mkF m 1 #[.val (.ref a1), .val (.int vv)] [(.int vv)])) (fun _ k => XS.iloadN X0.here hx rfl (hb hby d4_0) rfl k) ?_
  refine Go.back (f' := (mkF m 2 #[.val (.ref a1), .val (.int vv)] [(.ref a1), (.int vv)])) (fun _ k => XS.aloadN X0.here hx rfl (hb hby d4_1) rfl rfl k) ?_
  obtain ⟨T11, X11, e11, st11⟩ := getF X0 hx hZ hown (host := "") (Or.inl (hw _ (List.mem_of_getElem? (i := 19) rfl))) Via.refl e0 F1 (g := (mkF m 2 #[.val (.ref a1), .val (.int vv)] [(.ref a1), (.int vv)])) rfl rfl (hb hby d4_2)
  refine Go.back (f' := (mkF m 5 #[.val (.ref a1), .val (.int vv)] [(.int lo), (.int vv)])) st11 ?_
  by_cases h1 : vv < lo
  · refine Go.back (f' := (mkF m 20 #[.val (.ref a1), .val (.int vv)] [])) (fun _ k => XS.icmpYes X11.here hx rfl (pc0 := 5) (pc' := 20) rfl (hb hby d4_5) rfl (tlt h1).1 (by decide) (by decide) k) ?_
    refine Go.back (f' := (mkF m 21 #[.val (.ref a1), .val (.int vv)] [(.int (0 : Int32))])) (fun _ k => XS.iconst X11.here hx rfl (hb hby d4_20) k) ?_
    exact Go.retN X11 hx (t := .boolean) hret (by simp) (w := (0 : Int32)) rfl hlk (hb hby d4_21) (by (try rw [e11]); exact ⟨0, rfl, Or.inl rfl, ⟨fun q => absurd q (by decide), fun q => absurd h1 q.1⟩, rfl, rfl⟩) (Nat.zero_le _) (Nat.zero_le _)
  · refine Go.back (f' := (mkF m 8 #[.val (.ref a1), .val (.int vv)] [])) (fun _ k => XS.icmpNo X11.here hx rfl (hb hby d4_5) rfl (flt h1).1 k) ?_
    refine Go.back (f' := (mkF m 9 #[.val (.ref a1), .val (.int vv)] [(.int vv)])) (fun _ k => XS.iloadN X11.here hx rfl (hb hby d4_8) rfl k) ?_
    refine Go.back (f' := (mkF m 10 #[.val (.ref a1), .val (.int vv)] [(.ref a1), (.int vv)])) (fun _ k => XS.aloadN X11.here hx rfl (hb hby d4_9) rfl rfl k) ?_
    obtain ⟨T12, X12, e12, st12⟩ := getF X11 hx hZ hown (host := "") (Or.inl (hw _ (List.mem_of_getElem? (i := 21) rfl))) Via.refl e11 F2 (g := (mkF m 10 #[.val (.ref a1), .val (.int vv)] [(.ref a1), (.int vv)])) rfl rfl (hb hby d4_10)
    refine Go.back (f' := (mkF m 13 #[.val (.ref a1), .val (.int vv)] [(.int hi), (.int vv)])) st12 ?_
    by_cases h2 : hi < vv
    · refine Go.back (f' := (mkF m 20 #[.val (.ref a1), .val (.int vv)] [])) (fun _ k => XS.icmpYes X12.here hx rfl (pc0 := 13) (pc' := 20) rfl (hb hby d4_13) rfl (tlt h2).2.2.1 (by decide) (by decide) k) ?_
      refine Go.back (f' := (mkF m 21 #[.val (.ref a1), .val (.int vv)] [(.int (0 : Int32))])) (fun _ k => XS.iconst X12.here hx rfl (hb hby d4_20) k) ?_
      exact Go.retN X12 hx (t := .boolean) hret (by simp) (w := (0 : Int32)) rfl hlk (hb hby d4_21) (by (try rw [e12]); exact ⟨0, rfl, Or.inl rfl, ⟨fun q => absurd q (by decide), fun q => absurd h2 q.2⟩, rfl, rfl⟩) (Nat.zero_le _) (Nat.zero_le _)
    · refine Go.back (f' := (mkF m 16 #[.val (.ref a1), .val (.int vv)] [])) (fun _ k => XS.icmpNo X12.here hx rfl (hb hby d4_13) rfl (flt h2).2.2.1 k) ?_
      refine Go.back (f' := (mkF m 17 #[.val (.ref a1), .val (.int vv)] [(.int (1 : Int32))])) (fun _ k => XS.iconst X12.here hx rfl (hb hby d4_16) k) ?_
      refine Go.back (f' := (mkF m 21 #[.val (.ref a1), .val (.int vv)] [(.int (1 : Int32))])) (fun _ k => XS.goto X12.here hx rfl (pc0 := 17) (pc' := 21) rfl (hb hby d4_17) (by decide) (by decide) k) ?_
      exact Go.retN X12 hx (t := .boolean) hret (by simp) (w := (1 : Int32)) rfl hlk (hb hby d4_21) (by (try rw [e12]); exact ⟨1, rfl, Or.inr rfl, ⟨fun _ => ⟨h1, h2⟩, fun _ => rfl⟩, rfl, rfl⟩) (Nat.zero_le _) (Nat.zero_le _)
theorem ef_rm0 (m : MethodId) (x0 : Int32) (x1 : Int32) (x2 : Int32) : entryFrame m #[(.int x0), (.int x1), (.int x2)] maxLocals = mkF m 0 #[.val (.int x0), .val (.int x1), .val (.int x2), .unset, .unset, .unset, .unset, .unset, .unset, .unset] [] := by first | (simp [entryFrame, mkF, argsToLocals, Value.category, maxLocals]; done) | rfl
set_option maxRecDepth 65536 in
set_option maxHeartbeats 40000000 in
theorem rm0 (l : Launch) (Z : State) (a0 : Array Value) (hw : ∀ d ∈ tables_1, d.before a0 Z = true) (wh ra mo : Int32) (p0 p1 p2 p3 p4 p5 p6 p7 p8 p9 : Addr) (h0 : Heap)  (S0 : Sta Z h0 "com/example/durable_coordinator/durablecoordinator/protocol/ApiKey" "METADATA" "Lcom/example/durable_coordinator/durablecoordinator/protocol/ApiKey;" (.ref p0)) (B0 : AK Z h0 p0 0 13) (S1 : Sta Z h0 "com/example/durable_coordinator/durablecoordinator/protocol/ApiKey" "OFFSET_COMMIT" "Lcom/example/durable_coordinator/durablecoordinator/protocol/ApiKey;" (.ref p1)) (B1 : AK Z h0 p1 2 9) (S2 : Sta Z h0 "com/example/durable_coordinator/durablecoordinator/protocol/ApiKey" "OFFSET_FETCH" "Lcom/example/durable_coordinator/durablecoordinator/protocol/ApiKey;" (.ref p2)) (B2 : AK Z h0 p2 1 9) (S3 : Sta Z h0 "com/example/durable_coordinator/durablecoordinator/protocol/ApiKey" "FIND_COORDINATOR" "Lcom/example/durable_coordinator/durablecoordinator/protocol/ApiKey;" (.ref p3)) (B3 : AK Z h0 p3 0 6) (S4 : Sta Z h0 "com/example/durable_coordinator/durablecoordinator/protocol/ApiKey" "JOIN_GROUP" "Lcom/example/durable_coordinator/durablecoordinator/protocol/ApiKey;" (.ref p4)) (B4 : AK Z h0 p4 0 9) (S5 : Sta Z h0 "com/example/durable_coordinator/durablecoordinator/protocol/ApiKey" "HEARTBEAT" "Lcom/example/durable_coordinator/durablecoordinator/protocol/ApiKey;" (.ref p5)) (B5 : AK Z h0 p5 0 4) (S6 : Sta Z h0 "com/example/durable_coordinator/durablecoordinator/protocol/ApiKey" "LEAVE_GROUP" "Lcom/example/durable_coordinator/durablecoordinator/protocol/ApiKey;" (.ref p6)) (B6 : AK Z h0 p6 0 5) (S7 : Sta Z h0 "com/example/durable_coordinator/durablecoordinator/protocol/ApiKey" "SYNC_GROUP" "Lcom/example/durable_coordinator/durablecoordinator/protocol/ApiKey;" (.ref p7)) (B7 : AK Z h0 p7 0 5) (S8 : Sta Z h0 "com/example/durable_coordinator/durablecoordinator/protocol/ApiKey" "API_VERSIONS" "Lcom/example/durable_coordinator/durablecoordinator/protocol/ApiKey;" (.ref p8)) (B8 : AK Z h0 p8 0 4) (S9 : Sta Z h0 "com/example/durable_coordinator/durablecoordinator/protocol/ApiKey" "CONSUMER_GROUP_HEARTBEAT" "Lcom/example/durable_coordinator/durablecoordinator/protocol/ApiKey;" (.ref p9)) (B9 : AK Z h0 p9 0 1) :
    Met l Z x code maxLocals ret room_1 #[(.int wh), (.int ra), (.int mo)] h0 (fun v h L => v = some (.int 1) ∧ Fr h0.size L) := by
  refine Met.intro (plainFor_of_name (by first | (simp [plainName, overriddenIn]; done) | decide +kernel)) ?_
  intro p e s m below meth c T0 hx hby hml hown hnm hret hlk hZ X0 e0
  refine Go.cast (ef_rm0 m wh ra mo) ?_
  have hml : c.maxLocals = 10 := hml
  refine Go.back (f' := (mkF m 1 #[.val (.int wh), .val (.int ra), .val (.int mo), .unset, .unset, .unset, .unset, .unset, .unset, .unset] [(.int wh)])) (fun _ k => XS.iloadN X0.here hx rfl (hb hby at_0) rfl k) ?_
  refine Go.back (f' := (mkF m 3 #[.val (.int wh), .val (.int ra), .val (.int mo), .unset, .unset, .unset, .unset, .unset, .unset, .unset] [(.int (2147483647 : Int32)), (.int wh)])) (fun _ k => X0.ldcInt hx hown (mvT hZ (hw _ (List.mem_of_getElem? (i := 0) rfl))) (g := (mkF m 1 #[.val (.int wh), .val (.int ra), .val (.int mo), .unset, .unset, .unset, .unset, .unset, .unset, .unset] [(.int wh)])) rfl (hb hby at_1) _ k) ?_
  refine Go.back (f' := (mkF m 4 #[.val (.int wh), .val (.int ra), .val (.int mo), .unset, .unset, .unset, .unset, .unset, .unset, .unset] [(.int (wh &&& (2147483647 : Int32)))])) (fun _ k => XS.iand X0.here hx rfl (hb hby at_3) rfl k) ?_
  refine Go.back (f' := (mkF m 6 #[.val (.int wh), .val (.int ra), .val (.int mo), .unset, .unset, .unset, .unset, .unset, .unset, .unset] [(.int (10 : Int32)), (.int (wh &&& (2147483647 : Int32)))])) (fun _ k => XS.bipush X0.here hx rfl (hb hby at_4) k) ?_
  refine Go.back (f' := (mkF m 7 #[.val (.int wh), .val (.int ra), .val (.int mo), .unset, .unset, .unset, .unset, .unset, .unset, .unset] [(.int ((wh &&& (2147483647 : Int32)) % (10 : Int32)))])) (fun _ k => iremM X0 hx rfl (hb hby at_6) rfl (by decide) k) ?_
  refine Go.back (f' := (mkF m 8 #[.val (.int wh), .val (.int ra), .val (.int mo), .val (.int ((wh &&& (2147483647 : Int32)) % (10 : Int32))), .unset, .unset, .unset, .unset, .unset, .unset] [])) (fun _ k => XS.istoreN X0.here hx rfl (hb hby at_7) rfl (l' := #[.val (.int wh), .val (.int ra), .val (.int mo), .val (.int ((wh &&& (2147483647 : Int32)) % (10 : Int32))), .unset, .unset, .unset, .unset, .unset, .unset]) rfl k) ?_
  generalize ek : ((wh &&& (2147483647 : Int32)) % (10 : Int32)) = kk
  refine Go.back (f' := (mkF m 9 #[.val (.int wh), .val (.int ra), .val (.int mo), .val (.int kk), .unset, .unset, .unset, .unset, .unset, .unset] [(.int kk)])) (fun _ k => XS.iloadN X0.here hx rfl (hb hby at_8) rfl k) ?_
  refine Go.callS X0 hx hZ hown (hw _ (List.mem_of_getElem? (i := 1) rfl)) (hw _ (List.mem_of_getElem? (i := 2) rfl)) (hw _ (List.mem_of_getElem? (i := 3) rfl)) (hw _ (List.mem_of_getElem? (i := 4) rfl)) (by decide) e0 (argsL := [(.int kk)]) (rest := []) (rm1 l Z a0 hw kk p0 p1 p2 p3 p4 p5 p6 p7 p8 p9 h0 S0 B0 S1 B1 S2 B2 S3 B3 S4 B4 S5 B5 S6 B6 S7 B7 S8 B8 S9 B9) (lenOf pd_0 rfl) rfl (by rw [hml]; rfl) (W := 0) (Nat.le_of_eq rfl) (hb hby at_9) (by decide) (by decide) (by decide) (by decide) ?_
  intro v13 T13 L13 X13 hQ13
  obtain ⟨a1, rfl, ⟨BE, B1, B2⟩, rfl, hh13⟩ := hQ13
  show GoG _ _ _ _ _ (mkF m 12 #[.val (.int wh), .val (.int ra), .val (.int mo), .val (.int kk), .unset, .unset, .unset, .unset, .unset, .unset] [(.ref a1)])
  refine Go.back (f' := (mkF m 14 #[.val (.int wh), .val (.int ra), .val (.int mo), .val (.int kk), .val (.ref a1), .unset, .unset, .unset, .unset, .unset] [])) (fun _ k => XS.astore X13.here hx rfl (hb hby at_12) rfl rfl (l' := #[.val (.int wh), .val (.int ra), .val (.int mo), .val (.int kk), .val (.ref a1), .unset, .unset, .unset, .unset, .unset]) rfl k) ?_
  refine Go.back (f' := (mkF m 15 #[.val (.int wh), .val (.int ra), .val (.int mo), .val (.int kk), .val (.ref a1), .unset, .unset, .unset, .unset, .unset] [(.int kk)])) (fun _ k => XS.iloadN X13.here hx rfl (hb hby at_14) rfl k) ?_
  refine Go.callS X13 hx hZ hown (hw _ (List.mem_of_getElem? (i := 8) rfl)) (hw _ (List.mem_of_getElem? (i := 9) rfl)) (hw _ (List.mem_of_getElem? (i := 3) rfl)) (hw _ (List.mem_of_getElem? (i := 10) rfl)) (by decide) hh13 (argsL := [(.int kk)]) (rest := []) (rm2 l Z a0 hw kk h0) (lenOf pd_1 rfl) rfl (by rw [hml]; rfl) (W := 0) (Nat.le_of_eq rfl) (hb hby at_15) (by decide) (by decide) (by decide) (by decide) ?_
  intro v14 T14 L14 X14 hQ14
  obtain ⟨rfl, rfl, hh14⟩ := hQ14
  rw [List.append_nil] at X14
  show GoG _ _ _ _ _ (mkF m 18 #[.val (.int wh), .val (.int ra), .val (.int mo), .val (.int kk), .val (.ref a1), .unset, .unset, .unset, .unset, .unset] [(.int (loV kk))])
  refine Go.back (f' := (mkF m 20 #[.val (.int wh), .val (.int ra), .val (.int mo), .val (.int kk), .val (.ref a1), .val (.int (loV kk)), .unset, .unset, .unset, .unset] [])) (fun _ k => XS.istore X14.here hx rfl (hb hby at_18) rfl (l' := #[.val (.int wh), .val (.int ra), .val (.int mo), .val (.int kk), .val (.ref a1), .val (.int (loV kk)), .unset, .unset, .unset, .unset]) rfl k) ?_
  refine Go.back (f' := (mkF m 21 #[.val (.int wh), .val (.int ra), .val (.int mo), .val (.int kk), .val (.ref a1), .val (.int (loV kk)), .unset, .unset, .unset, .unset] [(.int kk)])) (fun _ k => XS.iloadN X14.here hx rfl (hb hby at_20) rfl k) ?_
  refine Go.callS X14 hx hZ hown (hw _ (List.mem_of_getElem? (i := 11) rfl)) (hw _ (List.mem_of_getElem? (i := 12) rfl)) (hw _ (List.mem_of_getElem? (i := 3) rfl)) (hw _ (List.mem_of_getElem? (i := 13) rfl)) (by decide) hh14 (argsL := [(.int kk)]) (rest := []) (rm3 l Z a0 hw kk h0) (lenOf pd_1 rfl) rfl (by rw [hml]; rfl) (W := 0) (Nat.le_of_eq rfl) (hb hby at_21) (by decide) (by decide) (by decide) (by decide) ?_
  intro v15 T15 L15 X15 hQ15
  obtain ⟨rfl, rfl, hh15⟩ := hQ15
  rw [List.append_nil] at X15
  show GoG _ _ _ _ _ (mkF m 24 #[.val (.int wh), .val (.int ra), .val (.int mo), .val (.int kk), .val (.ref a1), .val (.int (loV kk)), .unset, .unset, .unset, .unset] [(.int (hiV kk))])
  refine Go.back (f' := (mkF m 26 #[.val (.int wh), .val (.int ra), .val (.int mo), .val (.int kk), .val (.ref a1), .val (.int (loV kk)), .val (.int (hiV kk)), .unset, .unset, .unset] [])) (fun _ k => XS.istore X15.here hx rfl (hb hby at_24) rfl (l' := #[.val (.int wh), .val (.int ra), .val (.int mo), .val (.int kk), .val (.ref a1), .val (.int (loV kk)), .val (.int (hiV kk)), .unset, .unset, .unset]) rfl k) ?_
  refine Go.back (f' := (mkF m 27 #[.val (.int wh), .val (.int ra), .val (.int mo), .val (.int kk), .val (.ref a1), .val (.int (loV kk)), .val (.int (hiV kk)), .unset, .unset, .unset] [(.int mo)])) (fun _ k => XS.iloadN X15.here hx rfl (hb hby at_26) rfl k) ?_
  refine Go.back (f' := (mkF m 29 #[.val (.int wh), .val (.int ra), .val (.int mo), .val (.int kk), .val (.ref a1), .val (.int (loV kk)), .val (.int (hiV kk)), .unset, .unset, .unset] [(.int (2147483647 : Int32)), (.int mo)])) (fun _ k => X15.ldcInt hx hown (mvT hZ (hw _ (List.mem_of_getElem? (i := 0) rfl))) (g := (mkF m 27 #[.val (.int wh), .val (.int ra), .val (.int mo), .val (.int kk), .val (.ref a1), .val (.int (loV kk)), .val (.int (hiV kk)), .unset, .unset, .unset] [(.int mo)])) rfl (hb hby at_27) _ k) ?_
  refine Go.back (f' := (mkF m 30 #[.val (.int wh), .val (.int ra), .val (.int mo), .val (.int kk), .val (.ref a1), .val (.int (loV kk)), .val (.int (hiV kk)), .unset, .unset, .unset] [(.int (mo &&& (2147483647 : Int32)))])) (fun _ k => XS.iand X15.here hx rfl (hb hby at_29) rfl k) ?_
  refine Go.back (f' := (mkF m 31 #[.val (.int wh), .val (.int ra), .val (.int mo), .val (.int kk), .val (.ref a1), .val (.int (loV kk)), .val (.int (hiV kk)), .unset, .unset, .unset] [(.int (5 : Int32)), (.int (mo &&& (2147483647 : Int32)))])) (fun _ k => XS.iconst X15.here hx rfl (hb hby at_30) k) ?_
  refine Go.back (f' := (mkF m 32 #[.val (.int wh), .val (.int ra), .val (.int mo), .val (.int kk), .val (.ref a1), .val (.int (loV kk)), .val (.int (hiV kk)), .unset, .unset, .unset] [(.int ((mo &&& (2147483647 : Int32)) % (5 : Int32)))])) (fun _ k => iremM X15 hx rfl (hb hby at_31) rfl (by decide) k) ?_
  refine Go.back (f' := (mkF m 34 #[.val (.int wh), .val (.int ra), .val (.int mo), .val (.int kk), .val (.ref a1), .val (.int (loV kk)), .val (.int (hiV kk)), .val (.int ((mo &&& (2147483647 : Int32)) % (5 : Int32))), .unset, .unset] [])) (fun _ k => XS.istore X15.here hx rfl (hb hby at_32) rfl (l' := #[.val (.int wh), .val (.int ra), .val (.int mo), .val (.int kk), .val (.ref a1), .val (.int (loV kk)), .val (.int (hiV kk)), .val (.int ((mo &&& (2147483647 : Int32)) % (5 : Int32))), .unset, .unset]) rfl k) ?_
  refine Go.back (f' := (mkF m 36 #[.val (.int wh), .val (.int ra), .val (.int mo), .val (.int kk), .val (.ref a1), .val (.int (loV kk)), .val (.int (hiV kk)), .val (.int ((mo &&& (2147483647 : Int32)) % (5 : Int32))), .unset, .unset] [(.int ((mo &&& (2147483647 : Int32)) % (5 : Int32)))])) (fun _ k => XS.iload X15.here hx rfl (hb hby at_34) rfl k) ?_
  generalize loV kk = lo at B1 ⊢
  generalize hiV kk = hi at B2 ⊢
  suffices jm16 : ∀ vv : Int32, (True) → Go p e below s (fun v h L => v = some (.int 1) ∧ Fr h0.size L) room_1.cells room_1.slots T15 (mkF m 97 #[.val (.int wh), .val (.int ra), .val (.int mo), .val (.int kk), .val (.ref a1), .val (.int lo), .val (.int hi), .val (.int ((mo &&& (2147483647 : Int32)) % (5 : Int32))), .val (.int vv), .unset] []) by
    by_cases hp_vv_0 : ((mo &&& (2147483647 : Int32)) % (5 : Int32)) = 0
    · refine Go.back (f' := (mkF m 39 #[.val (.int wh), .val (.int ra), .val (.int mo), .val (.int kk), .val (.ref a1), .val (.int lo), .val (.int hi), .val (.int ((mo &&& (2147483647 : Int32)) % (5 : Int32))), .unset, .unset] [])) (fun _ k => XS.ifNo X15.here hx rfl (hb hby at_36) rfl ((if0 _ _).trans (teq hp_vv_0).2) k) ?_
      refine Go.back (f' := (mkF m 41 #[.val (.int wh), .val (.int ra), .val (.int mo), .val (.int kk), .val (.ref a1), .val (.int lo), .val (.int hi), .val (.int ((mo &&& (2147483647 : Int32)) % (5 : Int32))), .unset, .unset] [(.int lo)])) (fun _ k => XS.iload X15.here hx rfl (hb hby at_39) rfl k) ?_
      refine Go.back (f' := (mkF m 42 #[.val (.int wh), .val (.int ra), .val (.int mo), .val (.int kk), .val (.ref a1), .val (.int lo), .val (.int hi), .val (.int ((mo &&& (2147483647 : Int32)) % (5 : Int32))), .unset, .unset] [(.int (1 : Int32)), (.int lo)])) (fun _ k => XS.iconst X15.here hx rfl (hb hby at_41) k) ?_
      refine Go.back (f' := (mkF m 43 #[.val (.int wh), .val (.int ra), .val (.int mo), .val (.int kk), .val (.ref a1), .val (.int lo), .val (.int hi), .val (.int ((mo &&& (2147483647 : Int32)) % (5 : Int32))), .unset, .unset] [(.int (lo - (1 : Int32)))])) (fun _ k => XS.isub X15.here hx rfl (hb hby at_42) rfl k) ?_
      refine Go.back (f' := (mkF m 44 #[.val (.int wh), .val (.int ra), .val (.int mo), .val (.int kk), .val (.ref a1), .val (.int lo), .val (.int hi), .val (.int ((mo &&& (2147483647 : Int32)) % (5 : Int32))), .unset, .unset] [(.int ((lo - (1 : Int32)).toInt16.toInt32))])) (fun _ k => XS.i2s X15.here hx rfl (hb hby at_43) rfl k) ?_
      refine Go.back (f' := (mkF m 46 #[.val (.int wh), .val (.int ra), .val (.int mo), .val (.int kk), .val (.ref a1), .val (.int lo), .val (.int hi), .val (.int ((mo &&& (2147483647 : Int32)) % (5 : Int32))), .val (.int ((lo - (1 : Int32)).toInt16.toInt32)), .unset] [])) (fun _ k => XS.istore X15.here hx rfl (hb hby at_44) rfl (l' := #[.val (.int wh), .val (.int ra), .val (.int mo), .val (.int kk), .val (.ref a1), .val (.int lo), .val (.int hi), .val (.int ((mo &&& (2147483647 : Int32)) % (5 : Int32))), .val (.int ((lo - (1 : Int32)).toInt16.toInt32)), .unset]) rfl k) ?_
      refine Go.back (f' := (mkF m 97 #[.val (.int wh), .val (.int ra), .val (.int mo), .val (.int kk), .val (.ref a1), .val (.int lo), .val (.int hi), .val (.int ((mo &&& (2147483647 : Int32)) % (5 : Int32))), .val (.int ((lo - (1 : Int32)).toInt16.toInt32)), .unset] [])) (fun _ k => XS.goto X15.here hx rfl (pc0 := 46) (pc' := 97) rfl (hb hby at_46) (by decide) (by decide) k) ?_
      exact jm16 ((lo - (1 : Int32)).toInt16.toInt32) trivial
    · refine Go.back (f' := (mkF m 49 #[.val (.int wh), .val (.int ra), .val (.int mo), .val (.int kk), .val (.ref a1), .val (.int lo), .val (.int hi), .val (.int ((mo &&& (2147483647 : Int32)) % (5 : Int32))), .unset, .unset] [])) (fun _ k => XS.ifYes X15.here hx rfl (pc0 := 36) (pc' := 49) rfl (hb hby at_36) rfl ((if0 _ _).trans (feq hp_vv_0).2) (by decide) (by decide) k) ?_
      refine Go.back (f' := (mkF m 51 #[.val (.int wh), .val (.int ra), .val (.int mo), .val (.int kk), .val (.ref a1), .val (.int lo), .val (.int hi), .val (.int ((mo &&& (2147483647 : Int32)) % (5 : Int32))), .unset, .unset] [(.int ((mo &&& (2147483647 : Int32)) % (5 : Int32)))])) (fun _ k => XS.iload X15.here hx rfl (hb hby at_49) rfl k) ?_
      refine Go.back (f' := (mkF m 52 #[.val (.int wh), .val (.int ra), .val (.int mo), .val (.int kk), .val (.ref a1), .val (.int lo), .val (.int hi), .val (.int ((mo &&& (2147483647 : Int32)) % (5 : Int32))), .unset, .unset] [(.int (1 : Int32)), (.int ((mo &&& (2147483647 : Int32)) % (5 : Int32)))])) (fun _ k => XS.iconst X15.here hx rfl (hb hby at_51) k) ?_
      by_cases hp_vv_1 : ((mo &&& (2147483647 : Int32)) % (5 : Int32)) = (1 : Int32)
      · refine Go.back (f' := (mkF m 55 #[.val (.int wh), .val (.int ra), .val (.int mo), .val (.int kk), .val (.ref a1), .val (.int lo), .val (.int hi), .val (.int ((mo &&& (2147483647 : Int32)) % (5 : Int32))), .unset, .unset] [])) (fun _ k => XS.icmpNo X15.here hx rfl (hb hby at_52) rfl (teq hp_vv_1).2 k) ?_
        refine Go.back (f' := (mkF m 57 #[.val (.int wh), .val (.int ra), .val (.int mo), .val (.int kk), .val (.ref a1), .val (.int lo), .val (.int hi), .val (.int ((mo &&& (2147483647 : Int32)) % (5 : Int32))), .unset, .unset] [(.int lo)])) (fun _ k => XS.iload X15.here hx rfl (hb hby at_55) rfl k) ?_
        refine Go.back (f' := (mkF m 58 #[.val (.int wh), .val (.int ra), .val (.int mo), .val (.int kk), .val (.ref a1), .val (.int lo), .val (.int hi), .val (.int ((mo &&& (2147483647 : Int32)) % (5 : Int32))), .unset, .unset] [(.int (lo.toInt16.toInt32))])) (fun _ k => XS.i2s X15.here hx rfl (hb hby at_57) rfl k) ?_
        refine Go.back (f' := (mkF m 60 #[.val (.int wh), .val (.int ra), .val (.int mo), .val (.int kk), .val (.ref a1), .val (.int lo), .val (.int hi), .val (.int ((mo &&& (2147483647 : Int32)) % (5 : Int32))), .val (.int (lo.toInt16.toInt32)), .unset] [])) (fun _ k => XS.istore X15.here hx rfl (hb hby at_58) rfl (l' := #[.val (.int wh), .val (.int ra), .val (.int mo), .val (.int kk), .val (.ref a1), .val (.int lo), .val (.int hi), .val (.int ((mo &&& (2147483647 : Int32)) % (5 : Int32))), .val (.int (lo.toInt16.toInt32)), .unset]) rfl k) ?_
        refine Go.back (f' := (mkF m 97 #[.val (.int wh), .val (.int ra), .val (.int mo), .val (.int kk), .val (.ref a1), .val (.int lo), .val (.int hi), .val (.int ((mo &&& (2147483647 : Int32)) % (5 : Int32))), .val (.int (lo.toInt16.toInt32)), .unset] [])) (fun _ k => XS.goto X15.here hx rfl (pc0 := 60) (pc' := 97) rfl (hb hby at_60) (by decide) (by decide) k) ?_
        exact jm16 (lo.toInt16.toInt32) trivial
      · refine Go.back (f' := (mkF m 63 #[.val (.int wh), .val (.int ra), .val (.int mo), .val (.int kk), .val (.ref a1), .val (.int lo), .val (.int hi), .val (.int ((mo &&& (2147483647 : Int32)) % (5 : Int32))), .unset, .unset] [])) (fun _ k => XS.icmpYes X15.here hx rfl (pc0 := 52) (pc' := 63) rfl (hb hby at_52) rfl (feq hp_vv_1).2 (by decide) (by decide) k) ?_
        refine Go.back (f' := (mkF m 65 #[.val (.int wh), .val (.int ra), .val (.int mo), .val (.int kk), .val (.ref a1), .val (.int lo), .val (.int hi), .val (.int ((mo &&& (2147483647 : Int32)) % (5 : Int32))), .unset, .unset] [(.int ((mo &&& (2147483647 : Int32)) % (5 : Int32)))])) (fun _ k => XS.iload X15.here hx rfl (hb hby at_63) rfl k) ?_
        refine Go.back (f' := (mkF m 66 #[.val (.int wh), .val (.int ra), .val (.int mo), .val (.int kk), .val (.ref a1), .val (.int lo), .val (.int hi), .val (.int ((mo &&& (2147483647 : Int32)) % (5 : Int32))), .unset, .unset] [(.int (2 : Int32)), (.int ((mo &&& (2147483647 : Int32)) % (5 : Int32)))])) (fun _ k => XS.iconst X15.here hx rfl (hb hby at_65) k) ?_
        by_cases hp_vv_2 : ((mo &&& (2147483647 : Int32)) % (5 : Int32)) = (2 : Int32)
        · refine Go.back (f' := (mkF m 69 #[.val (.int wh), .val (.int ra), .val (.int mo), .val (.int kk), .val (.ref a1), .val (.int lo), .val (.int hi), .val (.int ((mo &&& (2147483647 : Int32)) % (5 : Int32))), .unset, .unset] [])) (fun _ k => XS.icmpNo X15.here hx rfl (hb hby at_66) rfl (teq hp_vv_2).2 k) ?_
          refine Go.back (f' := (mkF m 71 #[.val (.int wh), .val (.int ra), .val (.int mo), .val (.int kk), .val (.ref a1), .val (.int lo), .val (.int hi), .val (.int ((mo &&& (2147483647 : Int32)) % (5 : Int32))), .unset, .unset] [(.int hi)])) (fun _ k => XS.iload X15.here hx rfl (hb hby at_69) rfl k) ?_
          refine Go.back (f' := (mkF m 72 #[.val (.int wh), .val (.int ra), .val (.int mo), .val (.int kk), .val (.ref a1), .val (.int lo), .val (.int hi), .val (.int ((mo &&& (2147483647 : Int32)) % (5 : Int32))), .unset, .unset] [(.int (hi.toInt16.toInt32))])) (fun _ k => XS.i2s X15.here hx rfl (hb hby at_71) rfl k) ?_
          refine Go.back (f' := (mkF m 74 #[.val (.int wh), .val (.int ra), .val (.int mo), .val (.int kk), .val (.ref a1), .val (.int lo), .val (.int hi), .val (.int ((mo &&& (2147483647 : Int32)) % (5 : Int32))), .val (.int (hi.toInt16.toInt32)), .unset] [])) (fun _ k => XS.istore X15.here hx rfl (hb hby at_72) rfl (l' := #[.val (.int wh), .val (.int ra), .val (.int mo), .val (.int kk), .val (.ref a1), .val (.int lo), .val (.int hi), .val (.int ((mo &&& (2147483647 : Int32)) % (5 : Int32))), .val (.int (hi.toInt16.toInt32)), .unset]) rfl k) ?_
          refine Go.back (f' := (mkF m 97 #[.val (.int wh), .val (.int ra), .val (.int mo), .val (.int kk), .val (.ref a1), .val (.int lo), .val (.int hi), .val (.int ((mo &&& (2147483647 : Int32)) % (5 : Int32))), .val (.int (hi.toInt16.toInt32)), .unset] [])) (fun _ k => XS.goto X15.here hx rfl (pc0 := 74) (pc' := 97) rfl (hb hby at_74) (by decide) (by decide) k) ?_
          exact jm16 (hi.toInt16.toInt32) trivial
        · refine Go.back (f' := (mkF m 77 #[.val (.int wh), .val (.int ra), .val (.int mo), .val (.int kk), .val (.ref a1), .val (.int lo), .val (.int hi), .val (.int ((mo &&& (2147483647 : Int32)) % (5 : Int32))), .unset, .unset] [])) (fun _ k => XS.icmpYes X15.here hx rfl (pc0 := 66) (pc' := 77) rfl (hb hby at_66) rfl (feq hp_vv_2).2 (by decide) (by decide) k) ?_
          refine Go.back (f' := (mkF m 79 #[.val (.int wh), .val (.int ra), .val (.int mo), .val (.int kk), .val (.ref a1), .val (.int lo), .val (.int hi), .val (.int ((mo &&& (2147483647 : Int32)) % (5 : Int32))), .unset, .unset] [(.int ((mo &&& (2147483647 : Int32)) % (5 : Int32)))])) (fun _ k => XS.iload X15.here hx rfl (hb hby at_77) rfl k) ?_
          refine Go.back (f' := (mkF m 80 #[.val (.int wh), .val (.int ra), .val (.int mo), .val (.int kk), .val (.ref a1), .val (.int lo), .val (.int hi), .val (.int ((mo &&& (2147483647 : Int32)) % (5 : Int32))), .unset, .unset] [(.int (3 : Int32)), (.int ((mo &&& (2147483647 : Int32)) % (5 : Int32)))])) (fun _ k => XS.iconst X15.here hx rfl (hb hby at_79) k) ?_
          by_cases hp_vv_3 : ((mo &&& (2147483647 : Int32)) % (5 : Int32)) = (3 : Int32)
          · refine Go.back (f' := (mkF m 83 #[.val (.int wh), .val (.int ra), .val (.int mo), .val (.int kk), .val (.ref a1), .val (.int lo), .val (.int hi), .val (.int ((mo &&& (2147483647 : Int32)) % (5 : Int32))), .unset, .unset] [])) (fun _ k => XS.icmpNo X15.here hx rfl (hb hby at_80) rfl (teq hp_vv_3).2 k) ?_
            refine Go.back (f' := (mkF m 85 #[.val (.int wh), .val (.int ra), .val (.int mo), .val (.int kk), .val (.ref a1), .val (.int lo), .val (.int hi), .val (.int ((mo &&& (2147483647 : Int32)) % (5 : Int32))), .unset, .unset] [(.int hi)])) (fun _ k => XS.iload X15.here hx rfl (hb hby at_83) rfl k) ?_
            refine Go.back (f' := (mkF m 86 #[.val (.int wh), .val (.int ra), .val (.int mo), .val (.int kk), .val (.ref a1), .val (.int lo), .val (.int hi), .val (.int ((mo &&& (2147483647 : Int32)) % (5 : Int32))), .unset, .unset] [(.int (1 : Int32)), (.int hi)])) (fun _ k => XS.iconst X15.here hx rfl (hb hby at_85) k) ?_
            refine Go.back (f' := (mkF m 87 #[.val (.int wh), .val (.int ra), .val (.int mo), .val (.int kk), .val (.ref a1), .val (.int lo), .val (.int hi), .val (.int ((mo &&& (2147483647 : Int32)) % (5 : Int32))), .unset, .unset] [(.int (hi + (1 : Int32)))])) (fun _ k => XS.iadd X15.here hx rfl (hb hby at_86) rfl k) ?_
            refine Go.back (f' := (mkF m 88 #[.val (.int wh), .val (.int ra), .val (.int mo), .val (.int kk), .val (.ref a1), .val (.int lo), .val (.int hi), .val (.int ((mo &&& (2147483647 : Int32)) % (5 : Int32))), .unset, .unset] [(.int ((hi + (1 : Int32)).toInt16.toInt32))])) (fun _ k => XS.i2s X15.here hx rfl (hb hby at_87) rfl k) ?_
            refine Go.back (f' := (mkF m 90 #[.val (.int wh), .val (.int ra), .val (.int mo), .val (.int kk), .val (.ref a1), .val (.int lo), .val (.int hi), .val (.int ((mo &&& (2147483647 : Int32)) % (5 : Int32))), .val (.int ((hi + (1 : Int32)).toInt16.toInt32)), .unset] [])) (fun _ k => XS.istore X15.here hx rfl (hb hby at_88) rfl (l' := #[.val (.int wh), .val (.int ra), .val (.int mo), .val (.int kk), .val (.ref a1), .val (.int lo), .val (.int hi), .val (.int ((mo &&& (2147483647 : Int32)) % (5 : Int32))), .val (.int ((hi + (1 : Int32)).toInt16.toInt32)), .unset]) rfl k) ?_
            refine Go.back (f' := (mkF m 97 #[.val (.int wh), .val (.int ra), .val (.int mo), .val (.int kk), .val (.ref a1), .val (.int lo), .val (.int hi), .val (.int ((mo &&& (2147483647 : Int32)) % (5 : Int32))), .val (.int ((hi + (1 : Int32)).toInt16.toInt32)), .unset] [])) (fun _ k => XS.goto X15.here hx rfl (pc0 := 90) (pc' := 97) rfl (hb hby at_90) (by decide) (by decide) k) ?_
            exact jm16 ((hi + (1 : Int32)).toInt16.toInt32) trivial
          · refine Go.back (f' := (mkF m 93 #[.val (.int wh), .val (.int ra), .val (.int mo), .val (.int kk), .val (.ref a1), .val (.int lo), .val (.int hi), .val (.int ((mo &&& (2147483647 : Int32)) % (5 : Int32))), .unset, .unset] [])) (fun _ k => XS.icmpYes X15.here hx rfl (pc0 := 80) (pc' := 93) rfl (hb hby at_80) rfl (feq hp_vv_3).2 (by decide) (by decide) k) ?_
            refine Go.back (f' := (mkF m 94 #[.val (.int wh), .val (.int ra), .val (.int mo), .val (.int kk), .val (.ref a1), .val (.int lo), .val (.int hi), .val (.int ((mo &&& (2147483647 : Int32)) % (5 : Int32))), .unset, .unset] [(.int ra)])) (fun _ k => XS.iloadN X15.here hx rfl (hb hby at_93) rfl k) ?_
            refine Go.back (f' := (mkF m 95 #[.val (.int wh), .val (.int ra), .val (.int mo), .val (.int kk), .val (.ref a1), .val (.int lo), .val (.int hi), .val (.int ((mo &&& (2147483647 : Int32)) % (5 : Int32))), .unset, .unset] [(.int (ra.toInt16.toInt32))])) (fun _ k => XS.i2s X15.here hx rfl (hb hby at_94) rfl k) ?_
            refine Go.back (f' := (mkF m 97 #[.val (.int wh), .val (.int ra), .val (.int mo), .val (.int kk), .val (.ref a1), .val (.int lo), .val (.int hi), .val (.int ((mo &&& (2147483647 : Int32)) % (5 : Int32))), .val (.int (ra.toInt16.toInt32)), .unset] [])) (fun _ k => XS.istore X15.here hx rfl (hb hby at_95) rfl (l' := #[.val (.int wh), .val (.int ra), .val (.int mo), .val (.int kk), .val (.ref a1), .val (.int lo), .val (.int hi), .val (.int ((mo &&& (2147483647 : Int32)) % (5 : Int32))), .val (.int (ra.toInt16.toInt32)), .unset]) rfl k) ?_
            exact jm16 (ra.toInt16.toInt32) trivial
  intro vv h_vv
  refine Go.back (f' := (mkF m 99 #[.val (.int wh), .val (.int ra), .val (.int mo), .val (.int kk), .val (.ref a1), .val (.int lo), .val (.int hi), .val (.int ((mo &&& (2147483647 : Int32)) % (5 : Int32))), .val (.int vv), .unset] [(.int lo)])) (fun _ k => XS.iload X15.here hx rfl (hb hby at_97) rfl k) ?_
  refine Go.back (f' := (mkF m 101 #[.val (.int wh), .val (.int ra), .val (.int mo), .val (.int kk), .val (.ref a1), .val (.int lo), .val (.int hi), .val (.int ((mo &&& (2147483647 : Int32)) % (5 : Int32))), .val (.int vv), .unset] [(.int vv), (.int lo)])) (fun _ k => XS.iload X15.here hx rfl (hb hby at_99) rfl k) ?_
  suffices jm17 : ∀ ex : Int32, ((ex = 0 ∨ ex = 1) ∧ (ex = 1 ↔ (¬ vv < lo ∧ ¬ hi < vv))) → Go p e below s (fun v h L => v = some (.int 1) ∧ Fr h0.size L) room_1.cells room_1.slots T15 (mkF m 116 #[.val (.int wh), .val (.int ra), .val (.int mo), .val (.int kk), .val (.ref a1), .val (.int lo), .val (.int hi), .val (.int ((mo &&& (2147483647 : Int32)) % (5 : Int32))), .val (.int vv), .unset] [(.int ex)]) by
    by_cases hp_ex_0 : vv < lo
    · refine Go.back (f' := (mkF m 115 #[.val (.int wh), .val (.int ra), .val (.int mo), .val (.int kk), .val (.ref a1), .val (.int lo), .val (.int hi), .val (.int ((mo &&& (2147483647 : Int32)) % (5 : Int32))), .val (.int vv), .unset] [])) (fun _ k => XS.icmpYes X15.here hx rfl (pc0 := 101) (pc' := 115) rfl (hb hby at_101) rfl (tlt hp_ex_0).2.2.1 (by decide) (by decide) k) ?_
      refine Go.back (f' := (mkF m 116 #[.val (.int wh), .val (.int ra), .val (.int mo), .val (.int kk), .val (.ref a1), .val (.int lo), .val (.int hi), .val (.int ((mo &&& (2147483647 : Int32)) % (5 : Int32))), .val (.int vv), .unset] [(.int (0 : Int32))])) (fun _ k => XS.iconst X15.here hx rfl (hb hby at_115) k) ?_
      exact jm17 (0 : Int32) (by simp only [hp_ex_0]; simp)
    · refine Go.back (f' := (mkF m 104 #[.val (.int wh), .val (.int ra), .val (.int mo), .val (.int kk), .val (.ref a1), .val (.int lo), .val (.int hi), .val (.int ((mo &&& (2147483647 : Int32)) % (5 : Int32))), .val (.int vv), .unset] [])) (fun _ k => XS.icmpNo X15.here hx rfl (hb hby at_101) rfl (flt hp_ex_0).2.2.1 k) ?_
      refine Go.back (f' := (mkF m 106 #[.val (.int wh), .val (.int ra), .val (.int mo), .val (.int kk), .val (.ref a1), .val (.int lo), .val (.int hi), .val (.int ((mo &&& (2147483647 : Int32)) % (5 : Int32))), .val (.int vv), .unset] [(.int vv)])) (fun _ k => XS.iload X15.here hx rfl (hb hby at_104) rfl k) ?_
      refine Go.back (f' := (mkF m 108 #[.val (.int wh), .val (.int ra), .val (.int mo), .val (.int kk), .val (.ref a1), .val (.int lo), .val (.int hi), .val (.int ((mo &&& (2147483647 : Int32)) % (5 : Int32))), .val (.int vv), .unset] [(.int hi), (.int vv)])) (fun _ k => XS.iload X15.here hx rfl (hb hby at_106) rfl k) ?_
      by_cases hp_ex_1 : hi < vv
      · refine Go.back (f' := (mkF m 115 #[.val (.int wh), .val (.int ra), .val (.int mo), .val (.int kk), .val (.ref a1), .val (.int lo), .val (.int hi), .val (.int ((mo &&& (2147483647 : Int32)) % (5 : Int32))), .val (.int vv), .unset] [])) (fun _ k => XS.icmpYes X15.here hx rfl (pc0 := 108) (pc' := 115) rfl (hb hby at_108) rfl (tlt hp_ex_1).2.2.1 (by decide) (by decide) k) ?_
        refine Go.back (f' := (mkF m 116 #[.val (.int wh), .val (.int ra), .val (.int mo), .val (.int kk), .val (.ref a1), .val (.int lo), .val (.int hi), .val (.int ((mo &&& (2147483647 : Int32)) % (5 : Int32))), .val (.int vv), .unset] [(.int (0 : Int32))])) (fun _ k => XS.iconst X15.here hx rfl (hb hby at_115) k) ?_
        exact jm17 (0 : Int32) (by simp only [hp_ex_0, hp_ex_1]; simp)
      · refine Go.back (f' := (mkF m 111 #[.val (.int wh), .val (.int ra), .val (.int mo), .val (.int kk), .val (.ref a1), .val (.int lo), .val (.int hi), .val (.int ((mo &&& (2147483647 : Int32)) % (5 : Int32))), .val (.int vv), .unset] [])) (fun _ k => XS.icmpNo X15.here hx rfl (hb hby at_108) rfl (flt hp_ex_1).2.2.1 k) ?_
        refine Go.back (f' := (mkF m 112 #[.val (.int wh), .val (.int ra), .val (.int mo), .val (.int kk), .val (.ref a1), .val (.int lo), .val (.int hi), .val (.int ((mo &&& (2147483647 : Int32)) % (5 : Int32))), .val (.int vv), .unset] [(.int (1 : Int32))])) (fun _ k => XS.iconst X15.here hx rfl (hb hby at_111) k) ?_
        refine Go.back (f' := (mkF m 116 #[.val (.int wh), .val (.int ra), .val (.int mo), .val (.int kk), .val (.ref a1), .val (.int lo), .val (.int hi), .val (.int ((mo &&& (2147483647 : Int32)) % (5 : Int32))), .val (.int vv), .unset] [(.int (1 : Int32))])) (fun _ k => XS.goto X15.here hx rfl (pc0 := 112) (pc' := 116) rfl (hb hby at_112) (by decide) (by decide) k) ?_
        exact jm17 (1 : Int32) (by simp only [hp_ex_0, hp_ex_1]; simp)
  intro ex h_ex
  refine Go.back (f' := (mkF m 118 #[.val (.int wh), .val (.int ra), .val (.int mo), .val (.int kk), .val (.ref a1), .val (.int lo), .val (.int hi), .val (.int ((mo &&& (2147483647 : Int32)) % (5 : Int32))), .val (.int vv), .val (.int ex)] [])) (fun _ k => XS.istore X15.here hx rfl (hb hby at_116) rfl (l' := #[.val (.int wh), .val (.int ra), .val (.int mo), .val (.int kk), .val (.ref a1), .val (.int lo), .val (.int hi), .val (.int ((mo &&& (2147483647 : Int32)) % (5 : Int32))), .val (.int vv), .val (.int ex)]) rfl k) ?_
  refine Go.back (f' := (mkF m 120 #[.val (.int wh), .val (.int ra), .val (.int mo), .val (.int kk), .val (.ref a1), .val (.int lo), .val (.int hi), .val (.int ((mo &&& (2147483647 : Int32)) % (5 : Int32))), .val (.int vv), .val (.int ex)] [(.ref a1)])) (fun _ k => XS.aload X15.here hx rfl (hb hby at_118) rfl rfl k) ?_
  refine Go.back (f' := (mkF m 122 #[.val (.int wh), .val (.int ra), .val (.int mo), .val (.int kk), .val (.ref a1), .val (.int lo), .val (.int hi), .val (.int ((mo &&& (2147483647 : Int32)) % (5 : Int32))), .val (.int vv), .val (.int ex)] [(.int vv), (.ref a1)])) (fun _ k => XS.iload X15.here hx rfl (hb hby at_120) rfl k) ?_
  refine Go.callV X15 hx hZ hown (hw _ (List.mem_of_getElem? (i := 14) rfl)) (hw _ (List.mem_of_getElem? (i := 15) rfl)) (hw _ (List.mem_of_getElem? (i := 17) rfl)) (hw _ (List.mem_of_getElem? (i := 16) rfl)) (hw _ (List.mem_of_getElem? (i := 6) rfl)) (hw _ (List.mem_of_getElem? (i := 18) rfl)) (by decide) hh15 BE (argsL := [(.int vv)]) (rest := []) (rm4 l Z a0 hw a1 lo hi vv h0 B1 B2) (lenOf pd_2 rfl) rfl (by rw [hml]; rfl) (W := 0) (Nat.le_of_eq rfl) (hb hby at_122) (by decide) (by decide) (by decide) (by decide) ?_
  intro v18 T18 L18 X18 hQ18
  obtain ⟨gg, rfl, g01, gi, rfl, hh18⟩ := hQ18
  show GoG _ _ _ _ _ (mkF m 125 #[.val (.int wh), .val (.int ra), .val (.int mo), .val (.int kk), .val (.ref a1), .val (.int lo), .val (.int hi), .val (.int ((mo &&& (2147483647 : Int32)) % (5 : Int32))), .val (.int vv), .val (.int ex)] [(.int gg)])
  refine Go.back (f' := (mkF m 127 #[.val (.int wh), .val (.int ra), .val (.int mo), .val (.int kk), .val (.ref a1), .val (.int lo), .val (.int hi), .val (.int ((mo &&& (2147483647 : Int32)) % (5 : Int32))), .val (.int vv), .val (.int ex)] [(.int ex), (.int gg)])) (fun _ k => XS.iload X18.here hx rfl (hb hby at_125) rfl k) ?_
  refine Go.back (f' := (mkF m 130 #[.val (.int wh), .val (.int ra), .val (.int mo), .val (.int kk), .val (.ref a1), .val (.int lo), .val (.int hi), .val (.int ((mo &&& (2147483647 : Int32)) % (5 : Int32))), .val (.int vv), .val (.int ex)] [])) (fun _ k => XS.icmpNo X18.here hx rfl (hb hby at_127) rfl (teq (own_b2 g01 h_ex.1 (by rw [gi, h_ex.2]))).2 k) ?_
  refine Go.back (f' := (mkF m 131 #[.val (.int wh), .val (.int ra), .val (.int mo), .val (.int kk), .val (.ref a1), .val (.int lo), .val (.int hi), .val (.int ((mo &&& (2147483647 : Int32)) % (5 : Int32))), .val (.int vv), .val (.int ex)] [(.int (1 : Int32))])) (fun _ k => XS.iconst X18.here hx rfl (hb hby at_130) k) ?_
  refine Go.back (f' := (mkF m 135 #[.val (.int wh), .val (.int ra), .val (.int mo), .val (.int kk), .val (.ref a1), .val (.int lo), .val (.int hi), .val (.int ((mo &&& (2147483647 : Int32)) % (5 : Int32))), .val (.int vv), .val (.int ex)] [(.int (1 : Int32))])) (fun _ k => XS.goto X18.here hx rfl (pc0 := 131) (pc' := 135) rfl (hb hby at_131) (by decide) (by decide) k) ?_
  exact Go.retN X18 hx (t := .boolean) hret (by simp) (w := (1 : Int32)) rfl hlk (hb hby at_135) (by (try rw [hh18]); exact ⟨rfl, Fr.nil _⟩) (Nat.zero_le _) (Nat.zero_le _)

/-- a field of an object, out of a word 'field = an int' -/
theorem own_eqI {s : State} {args : Array Value} {a : Term} {z : Int32} (q : (Jvm.Cond.eq a (Jvm.Term.int z)).value args s none s [] = some true) : a.eval args s none [] s = some (.int z) := by
  simp only [Cond.value, Term.eval] at q
  cases ha : a.eval args s none [] s with
  | none => simp [ha] at q
  | some v => cases v <;> simp [ha] at q ⊢; exact q
theorem own_fs {s : State} {args : Array Value} {t : Term} {C n d : String} {a : Addr} {z : Int32} (ev : t.eval args s none [] s = some (.ref a)) (q : (Jvm.Cond.eq (Jvm.Term.field t C n d) (Jvm.Term.int z)).value args s none s [] = some true) : Fld s s.heap a C n d (.int z) :=
  Fld.start ((fld_at ev).symm.trans (own_eqI q))

set_option maxRecDepth 65536 in
set_option maxHeartbeats 40000000 in
theorem comes_1 {Post : Tables → Env → Array Value → State → Outcome → State → Prop} (hpost : ∀ tb e args s v u, (limb_1_1.after args s (.returned v) u = true ∧ limb_1_2.after args s (.returned v) u = true ∧ True) → FrameEnd s (.returned v) u (Jvm.fieldLocs frame_1_writes args s ++ Jvm.arrayLocs frame_1_arrays args s ++ Jvm.staticLocs frame_1_statics s) 0 0 → Post tb e args s (.returned v) u) :
    ArmFor flags0 classFile x code maxLocals ret World_1 tables_1 room_1 Calls_1 rest_1 Pre_1 Post := by
  intro l hfl _ _ p e ha hc hk s m args below hf hA hF happ hP
  obtain ⟨hcalls, hrest, hpre⟩ := hP
  obtain ⟨-, -, -, hnamed, -, -, -, hat⟩ := (Spec.applies_iff hf).mp happ
  obtain ⟨hg, hn⟩ := and_e (Cond.before_iff.mp (show (Jvm.Cond.and given_1 narrow_1).before args s = true from hpre))
  obtain ⟨hcnt, hg0⟩ := and_e hg
  obtain ⟨ht0, hg1⟩ := and_e hg0
  obtain ⟨ht1, hg2⟩ := and_e hg1
  have ht2 := hg2
  obtain ⟨w0, w1, w2, rfl⟩ : ∃ w0 w1 w2 : Value, args = #[w0, w1, w2] := by
    have hs : args.size = 3 := by simpa [Cond.value, given_1] using hcnt
    obtain ⟨L⟩ := args
    match L, hs with
    | [w0, w1, w2], _ => exact ⟨w0, w1, w2, rfl⟩
  have hw := fun d (hd : d ∈ tables_1) => atoms_spec (ws := Jvm.Cond.code x code maxLocals ret :: tables_1) hat d (List.mem_cons_of_mem _ hd)
  have hfit : Fit s := fun {y c} hc i hi => by
    obtain ⟨ha, rfl⟩ := Array.getElem?_eq_some_iff.mp hc
    have q := List.all_eq_true.mp ((Array.all_eq_true_iff_forall_mem.mp hF) _ (Array.getElem_mem ha)) i (List.mem_range.mpr hi)
    simpa [Array.getElem?_eq_getElem hi] using q
  obtain ⟨i0, ei0⟩ := is_v ht0
  obtain rfl : w0 = (.int i0) := Option.some.inj ei0
  obtain ⟨i1, ei1⟩ := is_v ht1
  obtain rfl : w1 = (.int i1) := Option.some.inj ei1
  obtain ⟨i2, ei2⟩ := is_v ht2
  obtain rfl : w2 = (.int i2) := Option.some.inj ei2
  obtain ⟨nw0, nr0⟩ := and_e hn
  obtain ⟨nw1, nr1⟩ := and_e nr0
  obtain ⟨nw2, nr2⟩ := and_e nr1
  obtain ⟨nw3, nr3⟩ := and_e nr2
  obtain ⟨nw4, nr4⟩ := and_e nr3
  obtain ⟨nw5, nr5⟩ := and_e nr4
  obtain ⟨nw6, nr6⟩ := and_e nr5
  obtain ⟨nw7, nr7⟩ := and_e nr6
  obtain ⟨nw8, nr8⟩ := and_e nr7
  obtain ⟨nw9, nr9⟩ := and_e nr8
  obtain ⟨nw10, nr10⟩ := and_e nr9
  obtain ⟨nw11, nr11⟩ := and_e nr10
  obtain ⟨nw12, nr12⟩ := and_e nr11
  obtain ⟨nw13, nr13⟩ := and_e nr12
  obtain ⟨nw14, nr14⟩ := and_e nr13
  obtain ⟨nw15, nr15⟩ := and_e nr14
  obtain ⟨nw16, nr16⟩ := and_e nr15
  obtain ⟨nw17, nr17⟩ := and_e nr16
  obtain ⟨nw18, nr18⟩ := and_e nr17
  obtain ⟨nw19, nr19⟩ := and_e nr18
  obtain ⟨nw20, nr20⟩ := and_e nr19
  obtain ⟨nw21, nr21⟩ := and_e nr20
  obtain ⟨nw22, nr22⟩ := and_e nr21
  obtain ⟨nw23, nr23⟩ := and_e nr22
  obtain ⟨nw24, nr24⟩ := and_e nr23
  obtain ⟨nw25, nr25⟩ := and_e nr24
  obtain ⟨nw26, nr26⟩ := and_e nr25
  obtain ⟨nw27, nr27⟩ := and_e nr26
  obtain ⟨nw28, nr28⟩ := and_e nr27
  have nw29 := nr28
  obtain ⟨p0, _, _, _, ev0, -⟩ := Cond.exactly_spec (Cond.before_iff.mpr nw0)
  have S0 : Sta s s.heap "com/example/durable_coordinator/durablecoordinator/protocol/ApiKey" "METADATA" "Lcom/example/durable_coordinator/durablecoordinator/protocol/ApiKey;" (.ref p0) := Sta.start ev0 (Or.inr ⟨(hw _ (List.mem_of_getElem? (i := 6) rfl)), (hw _ (List.mem_of_getElem? (i := 7) rfl))⟩)
  have B0 : AK s s.heap p0 0 13 := ⟨Exa.start ev0 nw0, own_fs ev0 nw1, own_fs ev0 nw2⟩
  obtain ⟨p1, _, _, _, ev1, -⟩ := Cond.exactly_spec (Cond.before_iff.mpr nw3)
  have S1 : Sta s s.heap "com/example/durable_coordinator/durablecoordinator/protocol/ApiKey" "OFFSET_COMMIT" "Lcom/example/durable_coordinator/durablecoordinator/protocol/ApiKey;" (.ref p1) := Sta.start ev1 (Or.inr ⟨(hw _ (List.mem_of_getElem? (i := 6) rfl)), (hw _ (List.mem_of_getElem? (i := 24) rfl))⟩)
  have B1 : AK s s.heap p1 2 9 := ⟨Exa.start ev1 nw3, own_fs ev1 nw4, own_fs ev1 nw5⟩
  obtain ⟨p2, _, _, _, ev2, -⟩ := Cond.exactly_spec (Cond.before_iff.mpr nw26)
  have S2 : Sta s s.heap "com/example/durable_coordinator/durablecoordinator/protocol/ApiKey" "OFFSET_FETCH" "Lcom/example/durable_coordinator/durablecoordinator/protocol/ApiKey;" (.ref p2) := Sta.start ev2 (Or.inr ⟨(hw _ (List.mem_of_getElem? (i := 6) rfl)), (hw _ (List.mem_of_getElem? (i := 40) rfl))⟩)
  have B2 : AK s s.heap p2 1 9 := ⟨Exa.start ev2 nw26, own_fs ev2 nw27, own_fs ev2 nw28⟩
  obtain ⟨p3, _, _, _, ev3, -⟩ := Cond.exactly_spec (Cond.before_iff.mpr nw15)
  have S3 : Sta s s.heap "com/example/durable_coordinator/durablecoordinator/protocol/ApiKey" "FIND_COORDINATOR" "Lcom/example/durable_coordinator/durablecoordinator/protocol/ApiKey;" (.ref p3) := Sta.start ev3 (Or.inr ⟨(hw _ (List.mem_of_getElem? (i := 6) rfl)), (hw _ (List.mem_of_getElem? (i := 32) rfl))⟩)
  have B3 : AK s s.heap p3 0 6 := ⟨Exa.start ev3 nw15, own_fs ev3 nw16, own_fs ev3 nw17⟩
  obtain ⟨p4, _, _, _, ev4, -⟩ := Cond.exactly_spec (Cond.before_iff.mpr nw6)
  have S4 : Sta s s.heap "com/example/durable_coordinator/durablecoordinator/protocol/ApiKey" "JOIN_GROUP" "Lcom/example/durable_coordinator/durablecoordinator/protocol/ApiKey;" (.ref p4) := Sta.start ev4 (Or.inr ⟨(hw _ (List.mem_of_getElem? (i := 6) rfl)), (hw _ (List.mem_of_getElem? (i := 26) rfl))⟩)
  have B4 : AK s s.heap p4 0 9 := ⟨Exa.start ev4 nw6, own_fs ev4 nw7, own_fs ev4 nw8⟩
  obtain ⟨p5, _, _, _, ev5, -⟩ := Cond.exactly_spec (Cond.before_iff.mpr nw9)
  have S5 : Sta s s.heap "com/example/durable_coordinator/durablecoordinator/protocol/ApiKey" "HEARTBEAT" "Lcom/example/durable_coordinator/durablecoordinator/protocol/ApiKey;" (.ref p5) := Sta.start ev5 (Or.inr ⟨(hw _ (List.mem_of_getElem? (i := 6) rfl)), (hw _ (List.mem_of_getElem? (i := 28) rfl))⟩)
  have B5 : AK s s.heap p5 0 4 := ⟨Exa.start ev5 nw9, own_fs ev5 nw10, own_fs ev5 nw11⟩
  obtain ⟨p6, _, _, _, ev6, -⟩ := Cond.exactly_spec (Cond.before_iff.mpr nw18)
  have S6 : Sta s s.heap "com/example/durable_coordinator/durablecoordinator/protocol/ApiKey" "LEAVE_GROUP" "Lcom/example/durable_coordinator/durablecoordinator/protocol/ApiKey;" (.ref p6) := Sta.start ev6 (Or.inr ⟨(hw _ (List.mem_of_getElem? (i := 6) rfl)), (hw _ (List.mem_of_getElem? (i := 34) rfl))⟩)
  have B6 : AK s s.heap p6 0 5 := ⟨Exa.start ev6 nw18, own_fs ev6 nw19, own_fs ev6 nw29⟩
  obtain ⟨p7, _, _, _, ev7, -⟩ := Cond.exactly_spec (Cond.before_iff.mpr nw20)
  have S7 : Sta s s.heap "com/example/durable_coordinator/durablecoordinator/protocol/ApiKey" "SYNC_GROUP" "Lcom/example/durable_coordinator/durablecoordinator/protocol/ApiKey;" (.ref p7) := Sta.start ev7 (Or.inr ⟨(hw _ (List.mem_of_getElem? (i := 6) rfl)), (hw _ (List.mem_of_getElem? (i := 36) rfl))⟩)
  have B7 : AK s s.heap p7 0 5 := ⟨Exa.start ev7 nw20, own_fs ev7 nw21, own_fs ev7 nw22⟩
  obtain ⟨p8, _, _, _, ev8, -⟩ := Cond.exactly_spec (Cond.before_iff.mpr nw12)
  have S8 : Sta s s.heap "com/example/durable_coordinator/durablecoordinator/protocol/ApiKey" "API_VERSIONS" "Lcom/example/durable_coordinator/durablecoordinator/protocol/ApiKey;" (.ref p8) := Sta.start ev8 (Or.inr ⟨(hw _ (List.mem_of_getElem? (i := 6) rfl)), (hw _ (List.mem_of_getElem? (i := 30) rfl))⟩)
  have B8 : AK s s.heap p8 0 4 := ⟨Exa.start ev8 nw12, own_fs ev8 nw13, own_fs ev8 nw14⟩
  obtain ⟨p9, _, _, _, ev9, -⟩ := Cond.exactly_spec (Cond.before_iff.mpr nw23)
  have S9 : Sta s s.heap "com/example/durable_coordinator/durablecoordinator/protocol/ApiKey" "CONSUMER_GROUP_HEARTBEAT" "Lcom/example/durable_coordinator/durablecoordinator/protocol/ApiKey;" (.ref p9) := Sta.start ev9 (Or.inr ⟨(hw _ (List.mem_of_getElem? (i := 6) rfl)), (hw _ (List.mem_of_getElem? (i := 38) rfl))⟩)
  have B9 : AK s s.heap p9 0 1 := ⟨Exa.start ev9 nw23, own_fs ev9 nw24, own_fs ev9 nw25⟩
  obtain ⟨n, o, h1, h2, h3, _, L, rfl, ⟨rfl, N⟩, hq⟩ := (rm0 l s _ hw i0 i1 i2 p0 p1 p2 p3 p4 p5 p6 p7 p8 p9 s.heap S0 B0 S1 B1 S2 B2 S3 B3 S4 B4 S5 B5 S6 B6 S7 B7 S8 B8 S9 B9) tables_1 p e ha hc hk s m _ below hf ((Spec.applies_iff_loose hf).mp happ).1 ⟨rfl, State.Warmed39.refl s, rfl⟩ trivial
  refine ⟨n, _, h1, h2, h3, hpost _ _ _ _ _ _ ⟨Cond.after_iff.mpr rfl, Cond.after_iff.mpr (eq_i res_at (Term.int_eval (1)) rfl), trivial⟩ ⟨hq.1, hq.2.1, (hq.2.2.sift fun y hy => Or.inr (N y hy)).mono (by decide) (by decide)⟩⟩
theorem main_1_1 : Claimed_1_1 := comes_1 fun _ _ _ _ _ _ h hF => ⟨h.1, hF⟩
theorem main_1_2 : Claimed_1_2 := comes_1 fun _ _ _ _ _ _ h hF => ⟨h.2.1, hF⟩
end Jvm.Pilot.@@N@@
namespace Jvm.Pilot.@@N@@
open Jvm Jvm.ClassFile Sem Op Lib Jvm.Free Jvm.Stand Jvm.Pilot.@@N@@.Jvm.D
/-! MADE BY PROGRAM (witnessworld.py) out of the Statement's table words and the real class files: 10 classes; the members and pool entries that the words name. The judged class is class 1, her method 4. -/
namespace start1
open Jvm.ClassFile
def u (s : String) : CpInfo := .utf8 (stringToUtf16 s)
/-- a pool by its gaps: so many unusable entries, then the entry; so many at the end -/
def gap : Nat → List CpInfo → List CpInfo
  | 0, r => r
  | n + 1, r => .unusable :: gap n r
def poolList (es : List (Nat × CpInfo)) (last : Nat) : List CpInfo := es.foldr (fun e r => gap e.1 (e.2 :: r)) (gap last [])
def pool (es : List (Nat × CpInfo)) (last : Nat) : Array CpInfo := ⟨poolList es last⟩
def fileOf (pool : Array CpInfo) (this : Nat) (attrs : Array Attribute := #[]) (ms : Array MethodInfo := #[]) (fl : Nat := 33) (sup : Nat := 0) (ifs : Array Nat := #[]) (fds : Array FieldInfo := #[]) : ClassFile where
  minorVersion := 0
  majorVersion := 65
  constantPool := pool
  accessFlags := fl
  thisClass := this
  superClass := sup
  interfaces := ifs
  fields := fds
  methods := ms
  attributes := attrs
def plain (name : String) (sup : Option ClassId) : Class where
  name := name
  kind := .ordinary
  loader := none
  accessFlags := 33
  super := sup
  interfaces := #[]
  cf := none
  fields := #[]
  methods := #[]
  instanceTypes := #[]
  staticTypes := #[]
  resolved := #[]
  callSites := []
  init := .initialized
  statics := none
  mirror := none

def pool0 : Array CpInfo := pool [(5, u "<init>"), (0, u "()V"), (1, .class_ 10), (1, u "java/lang/Object")] 113

def k0m0 : Method := { name := "<init>", desc := "()V", sig := { parameters := [], returnType := none }, accessFlags := 1, code := none }
/-- java/lang/Object -/
def k0 : Class := { plain "java/lang/Object" none with
  accessFlags := 33
  interfaces := #[]
  cf := some (fileOf pool0 8 #[] #[{ accessFlags := 1, nameIndex := 5, descriptorIndex := 6, attributes := #[] }] 33 0 #[] #[])
  fields := #[]
  methods := #[k0m0]
  instanceTypes := #[]
  staticTypes := #[]
  resolved := Array.replicate 124 none
  statics := none }

def pool1 : Array CpInfo := pool [(2, .class_ 4), (1, u "java/lang/Object"), (0, u "<init>"), (0, u "()V"), (0, .fieldref 8 9), (0, .class_ 10), (0, .nameAndType 11 12), (0, u "com/example/durable_coordinator/durablecoordinator/protocol/ApiKey"), (0, u "METADATA"), (0, u "Lcom/example/durable_coordinator/durablecoordinator/protocol/ApiKey;"), (0, .fieldref 8 14), (0, .nameAndType 15 12), (0, u "OFFSET_COMMIT"), (0, .fieldref 8 17), (0, .nameAndType 18 12), (0, u "OFFSET_FETCH"), (0, .fieldref 8 20), (0, .nameAndType 21 12), (0, u "FIND_COORDINATOR"), (0, .fieldref 8 23), (0, .nameAndType 24 12), (0, u "JOIN_GROUP"), (0, .fieldref 8 26), (0, .nameAndType 27 12), (0, u "HEARTBEAT"), (0, .fieldref 8 29), (0, .nameAndType 30 12), (0, u "LEAVE_GROUP"), (0, .fieldref 8 32), (0, .nameAndType 33 12), (0, u "SYNC_GROUP"), (0, .fieldref 8 35), (0, .nameAndType 36 12), (0, u "API_VERSIONS"), (0, .fieldref 8 38), (0, .nameAndType 39 12), (0, u "CONSUMER_GROUP_HEARTBEAT"), (0, .integer 2147483647), (0, .methodref 42 43), (0, .class_ 44), (0, .nameAndType 45 46), (0, u "com/example/durable_coordinator/durablecoordinator/protocol/ApiKeyServesPinLaw"), (0, u "pick"), (0, u "(I)Lcom/example/durable_coordinator/durablecoordinator/protocol/ApiKey;"), (0, .methodref 42 48), (0, .nameAndType 49 50), (0, u "lo"), (0, u "(I)I"), (0, .methodref 42 52), (0, .nameAndType 53 50), (0, u "hi"), (0, .methodref 8 55), (0, .nameAndType 56 57), (0, u "serves"), (0, u "(S)Z"), (3, u "law"), (0, u "(III)Z")] 2

def k1m0 : Method := { name := "<init>", desc := "()V", sig := { parameters := [], returnType := none }, accessFlags := 1, code := none }
def k1c1 : Code := { maxStack := 2, maxLocals := 1, code := method_2_code, exceptionTable := #[], attributes := #[] }
def k1m1 : Method := { name := "pick", desc := "(I)Lcom/example/durable_coordinator/durablecoordinator/protocol/ApiKey;", sig := { parameters := [.int], returnType := some (.object "com/example/durable_coordinator/durablecoordinator/protocol/ApiKey") }, accessFlags := 10, code := some k1c1 }
def k1c2 : Code := { maxStack := 2, maxLocals := 1, code := method_3_code, exceptionTable := #[], attributes := #[] }
def k1m2 : Method := { name := "lo", desc := "(I)I", sig := { parameters := [.int], returnType := some .int }, accessFlags := 10, code := some k1c2 }
def k1c3 : Code := { maxStack := 2, maxLocals := 1, code := method_4_code, exceptionTable := #[], attributes := #[] }
def k1m3 : Method := { name := "hi", desc := "(I)I", sig := { parameters := [.int], returnType := some .int }, accessFlags := 10, code := some k1c3 }
def k1c4 : Code := { maxStack := 2, maxLocals := 10, code := code, exceptionTable := #[], attributes := #[] }
def k1m4 : Method := { name := "law", desc := "(III)Z", sig := { parameters := [.int, .int, .int], returnType := some .boolean }, accessFlags := 9, code := some k1c4 }
/-- com/example/durable_coordinator/durablecoordinator/protocol/ApiKeyServesPinLaw -/
def k1 : Class := { plain "com/example/durable_coordinator/durablecoordinator/protocol/ApiKeyServesPinLaw" (some 0) with
  accessFlags := 49
  interfaces := #[]
  cf := some (fileOf pool1 42 #[] #[{ accessFlags := 1, nameIndex := 5, descriptorIndex := 6, attributes := #[] }, { accessFlags := 10, nameIndex := 45, descriptorIndex := 46, attributes := #[] }, { accessFlags := 10, nameIndex := 49, descriptorIndex := 50, attributes := #[] }, { accessFlags := 10, nameIndex := 53, descriptorIndex := 50, attributes := #[] }, { accessFlags := 9, nameIndex := 61, descriptorIndex := 62, attributes := #[] }] 49 2 #[] #[])
  fields := #[]
  methods := #[k1m0, k1m1, k1m2, k1m3, k1m4]
  instanceTypes := #[]
  staticTypes := #[]
  resolved := Array.replicate 65 none
  statics := none }

def pool2 : Array CpInfo := pool [(1, .class_ 2), (0, u "java/lang/constant/Constable"), (0, .class_ 4), (0, u "java/lang/Object")] 6

/-- java/lang/constant/Constable -/
def k2 : Class := { plain "java/lang/constant/Constable" (some 0) with
  accessFlags := 1537
  interfaces := #[]
  cf := some (fileOf pool2 1 #[] #[] 1537 3 #[] #[])
  fields := #[]
  methods := #[]
  instanceTypes := #[]
  staticTypes := #[]
  resolved := Array.replicate 11 none
  statics := none }

def pool3 : Array CpInfo := pool [(1, .class_ 2), (0, u "java/lang/Comparable"), (0, .class_ 4), (0, u "java/lang/Object")] 7

/-- java/lang/Comparable -/
def k3 : Class := { plain "java/lang/Comparable" (some 0) with
  accessFlags := 1537
  interfaces := #[]
  cf := some (fileOf pool3 1 #[] #[] 1537 3 #[] #[])
  fields := #[]
  methods := #[]
  instanceTypes := #[]
  staticTypes := #[]
  resolved := Array.replicate 12 none
  statics := none }

def pool4 : Array CpInfo := pool [(1, .class_ 2), (0, u "java/io/Serializable"), (0, .class_ 4), (0, u "java/lang/Object")] 2

/-- java/io/Serializable -/
def k4 : Class := { plain "java/io/Serializable" (some 0) with
  accessFlags := 1537
  interfaces := #[]
  cf := some (fileOf pool4 1 #[] #[] 1537 3 #[] #[])
  fields := #[]
  methods := #[]
  instanceTypes := #[]
  staticTypes := #[]
  resolved := Array.replicate 7 none
  statics := none }

def pool5 : Array CpInfo := pool [(2, .class_ 4), (1, u "java/lang/Enum"), (0, u "name"), (0, u "Ljava/lang/String;"), (2, u "ordinal"), (0, u "I"), (1, .class_ 14), (1, u "java/lang/Object"), (4, u "hash"), (86, .class_ 108), (1, u "java/lang/Enum$EnumDesc"), (2, .class_ 112), (0, u "java/lang/constant/Constable"), (0, .class_ 114), (0, u "java/lang/Comparable"), (0, .class_ 116), (0, u "java/io/Serializable")] 87

/-- java/lang/Enum -/
def k5 : Class := { plain "java/lang/Enum" (some 0) with
  accessFlags := 1057
  interfaces := #[2, 3, 4]
  cf := some (fileOf pool5 2 #[.nestMembers #[106]] #[] 1057 12 #[111, 113, 115] #[{ accessFlags := 18, nameIndex := 5, descriptorIndex := 6, attributes := #[] }, { accessFlags := 18, nameIndex := 9, descriptorIndex := 10, attributes := #[] }, { accessFlags := 2, nameIndex := 19, descriptorIndex := 10, attributes := #[] }])
  fields := #[{ name := "name", type := (.object "java/lang/String"), accessFlags := 18, slot := 0, constantValue := 0 }, { name := "ordinal", type := .int, accessFlags := 18, slot := 1, constantValue := 0 }, { name := "hash", type := .int, accessFlags := 2, slot := 2, constantValue := 0 }]
  methods := #[]
  instanceTypes := #[(.object "java/lang/String"), .int, .int]
  staticTypes := #[]
  resolved := Array.replicate 204 none
  statics := none }

def pool6 : Array CpInfo := pool [(1, .class_ 2), (0, u "com/example/durable_coordinator/durablecoordinator/protocol/ApiKey"), (2, u "METADATA"), (0, u "Lcom/example/durable_coordinator/durablecoordinator/protocol/ApiKey;"), (2, u "OFFSET_COMMIT"), (2, u "OFFSET_FETCH"), (2, u "FIND_COORDINATOR"), (2, u "JOIN_GROUP"), (2, u "HEARTBEAT"), (2, u "LEAVE_GROUP"), (2, u "SYNC_GROUP"), (2, u "API_VERSIONS"), (2, u "CONSUMER_GROUP_HEARTBEAT"), (2, u "$VALUES"), (0, u "[Lcom/example/durable_coordinator/durablecoordinator/protocol/ApiKey;"), (6, .class_ 46), (1, u "java/lang/Enum"), (8, u "id"), (0, u "S"), (0, .fieldref 1 58), (0, .nameAndType 59 56), (0, u "minVersion"), (0, .fieldref 1 61), (0, .nameAndType 62 56), (0, u "maxVersion"), (2, u "firstFlexibleVersion"), (7, u "(S)Z"), (26, u "serves")] 6

def k6c0 : Code := { maxStack := 2, maxLocals := 2, code := prog_57_method_8_code, exceptionTable := #[], attributes := #[] }
def k6m0 : Method := { name := "serves", desc := "(S)Z", sig := { parameters := [.short], returnType := some .boolean }, accessFlags := 1, code := some k6c0 }
/-- com/example/durable_coordinator/durablecoordinator/protocol/ApiKey -/
def k6 : Class := { plain "com/example/durable_coordinator/durablecoordinator/protocol/ApiKey" (some 5) with
  accessFlags := 16433
  interfaces := #[]
  cf := some (fileOf pool6 1 #[] #[{ accessFlags := 1, nameIndex := 100, descriptorIndex := 73, attributes := #[] }] 16433 44 #[] #[{ accessFlags := 16409, nameIndex := 5, descriptorIndex := 6, attributes := #[] }, { accessFlags := 16409, nameIndex := 9, descriptorIndex := 6, attributes := #[] }, { accessFlags := 16409, nameIndex := 12, descriptorIndex := 6, attributes := #[] }, { accessFlags := 16409, nameIndex := 15, descriptorIndex := 6, attributes := #[] }, { accessFlags := 16409, nameIndex := 18, descriptorIndex := 6, attributes := #[] }, { accessFlags := 16409, nameIndex := 21, descriptorIndex := 6, attributes := #[] }, { accessFlags := 16409, nameIndex := 24, descriptorIndex := 6, attributes := #[] }, { accessFlags := 16409, nameIndex := 27, descriptorIndex := 6, attributes := #[] }, { accessFlags := 16409, nameIndex := 30, descriptorIndex := 6, attributes := #[] }, { accessFlags := 16409, nameIndex := 33, descriptorIndex := 6, attributes := #[] }, { accessFlags := 18, nameIndex := 55, descriptorIndex := 56, attributes := #[] }, { accessFlags := 18, nameIndex := 59, descriptorIndex := 56, attributes := #[] }, { accessFlags := 18, nameIndex := 62, descriptorIndex := 56, attributes := #[] }, { accessFlags := 18, nameIndex := 65, descriptorIndex := 56, attributes := #[] }, { accessFlags := 4122, nameIndex := 36, descriptorIndex := 37, attributes := #[] }])
  fields := #[{ name := "METADATA", type := (.object "com/example/durable_coordinator/durablecoordinator/protocol/ApiKey"), accessFlags := 16409, slot := 0, constantValue := 0 }, { name := "OFFSET_COMMIT", type := (.object "com/example/durable_coordinator/durablecoordinator/protocol/ApiKey"), accessFlags := 16409, slot := 1, constantValue := 0 }, { name := "OFFSET_FETCH", type := (.object "com/example/durable_coordinator/durablecoordinator/protocol/ApiKey"), accessFlags := 16409, slot := 2, constantValue := 0 }, { name := "FIND_COORDINATOR", type := (.object "com/example/durable_coordinator/durablecoordinator/protocol/ApiKey"), accessFlags := 16409, slot := 3, constantValue := 0 }, { name := "JOIN_GROUP", type := (.object "com/example/durable_coordinator/durablecoordinator/protocol/ApiKey"), accessFlags := 16409, slot := 4, constantValue := 0 }, { name := "HEARTBEAT", type := (.object "com/example/durable_coordinator/durablecoordinator/protocol/ApiKey"), accessFlags := 16409, slot := 5, constantValue := 0 }, { name := "LEAVE_GROUP", type := (.object "com/example/durable_coordinator/durablecoordinator/protocol/ApiKey"), accessFlags := 16409, slot := 6, constantValue := 0 }, { name := "SYNC_GROUP", type := (.object "com/example/durable_coordinator/durablecoordinator/protocol/ApiKey"), accessFlags := 16409, slot := 7, constantValue := 0 }, { name := "API_VERSIONS", type := (.object "com/example/durable_coordinator/durablecoordinator/protocol/ApiKey"), accessFlags := 16409, slot := 8, constantValue := 0 }, { name := "CONSUMER_GROUP_HEARTBEAT", type := (.object "com/example/durable_coordinator/durablecoordinator/protocol/ApiKey"), accessFlags := 16409, slot := 9, constantValue := 0 }, { name := "id", type := .short, accessFlags := 18, slot := 3, constantValue := 0 }, { name := "minVersion", type := .short, accessFlags := 18, slot := 4, constantValue := 0 }, { name := "maxVersion", type := .short, accessFlags := 18, slot := 5, constantValue := 0 }, { name := "firstFlexibleVersion", type := .short, accessFlags := 18, slot := 6, constantValue := 0 }, { name := "$VALUES", type := (.array (.object "com/example/durable_coordinator/durablecoordinator/protocol/ApiKey")), accessFlags := 4122, slot := 10, constantValue := 0 }]
  methods := #[k6m0]
  instanceTypes := #[(.object "java/lang/String"), .int, .int, .short, .short, .short, .short]
  staticTypes := #[(.object "com/example/durable_coordinator/durablecoordinator/protocol/ApiKey"), (.object "com/example/durable_coordinator/durablecoordinator/protocol/ApiKey"), (.object "com/example/durable_coordinator/durablecoordinator/protocol/ApiKey"), (.object "com/example/durable_coordinator/durablecoordinator/protocol/ApiKey"), (.object "com/example/durable_coordinator/durablecoordinator/protocol/ApiKey"), (.object "com/example/durable_coordinator/durablecoordinator/protocol/ApiKey"), (.object "com/example/durable_coordinator/durablecoordinator/protocol/ApiKey"), (.object "com/example/durable_coordinator/durablecoordinator/protocol/ApiKey"), (.object "com/example/durable_coordinator/durablecoordinator/protocol/ApiKey"), (.object "com/example/durable_coordinator/durablecoordinator/protocol/ApiKey"), (.array (.object "com/example/durable_coordinator/durablecoordinator/protocol/ApiKey"))]
  resolved := Array.replicate 107 none
  statics := some 0 }

def pool7 : Array CpInfo := pool [(1, u "java/lang/Cloneable"), (0, .class_ 1), (0, u "java/lang/Object"), (0, .class_ 3)] 3

/-- java/lang/Cloneable -/
def k7 : Class := { plain "java/lang/Cloneable" (some 0) with
  accessFlags := 1537
  interfaces := #[]
  cf := some (fileOf pool7 2 #[] #[] 1537 4 #[] #[])
  fields := #[]
  methods := #[]
  instanceTypes := #[]
  staticTypes := #[]
  resolved := Array.replicate 8 none
  statics := none }

/-- the primitive byte -/
def k8 : Class := { plain "byte" none with kind := .primitive 'B', accessFlags := 0x411 }
/-- [B -/
def k9 : Class := { plain "[B" (some 0) with kind := .array 8 .byte, interfaces := #[7, 4], accessFlags := 1041 }

def heap : Heap := #[{ cls := 6, slots := #[.ref 1, .ref 2, .ref 10, .ref 6, .ref 3, .ref 4, .ref 7, .ref 8, .ref 5, .ref 9, .null], vm := .statics 6 },
  { cls := 6, slots := #[.null, .int 0, .int 0, .int 0, .int 0, .int 13, .int 0], vm := .none },
  { cls := 6, slots := #[.null, .int 0, .int 0, .int 0, .int 2, .int 9, .int 0], vm := .none },
  { cls := 6, slots := #[.null, .int 0, .int 0, .int 0, .int 0, .int 9, .int 0], vm := .none },
  { cls := 6, slots := #[.null, .int 0, .int 0, .int 0, .int 0, .int 4, .int 0], vm := .none },
  { cls := 6, slots := #[.null, .int 0, .int 0, .int 0, .int 0, .int 4, .int 0], vm := .none },
  { cls := 6, slots := #[.null, .int 0, .int 0, .int 0, .int 0, .int 6, .int 0], vm := .none },
  { cls := 6, slots := #[.null, .int 0, .int 0, .int 0, .int 0, .int 5, .int 0], vm := .none },
  { cls := 6, slots := #[.null, .int 0, .int 0, .int 0, .int 0, .int 5, .int 0], vm := .none },
  { cls := 6, slots := #[.null, .int 0, .int 0, .int 0, .int 0, .int 1, .int 0], vm := .none },
  { cls := 6, slots := #[.null, .int 0, .int 0, .int 0, .int 1, .int 9, .int 0], vm := .none }]
def classes : Array Class := #[k0, k1, k2, k3, k4, k5, k6, k7, k8, k9]
def interned : List (Array UInt16 × Addr) := []
def slotsUsed : Nat := 81
def theMethod : MethodId := ⟨1, 4⟩
def args0 : Array Value := #[.int 1, .int 2, .int 3]
def aboutOver (below : List Frame) : State where
  vm := { classes := classes, interned := interned.toArray }
  heap := heap
  slotsUsed := slotsUsed
  threads := #[{ frames := .invoking theMethod args0 :: below }]
def below0 : List Frame := [.native { method := ⟨0, 0⟩, args := #[] }]
def about1 : State := aboutOver below0
def p0 : Program := .bare "" "" ""
def e0 : Env := launch0.env 0 0 0
theorem w_frames : about1.frames = Frame.invoking theMethod args0 :: below0 := rfl
set_option maxRecDepth 65536 in
theorem w_args : argsFit about1.vm theMethod args0 = true := by decide +kernel
set_option maxRecDepth 65536 in
theorem w_heap : heapFits about1 = true := by decide +kernel
set_option maxRecDepth 65536 in
theorem w_runnable : about1.curStatus? = some .runnable := by decide +kernel
set_option maxRecDepth 65536 in
theorem w_alone : about1.alone = true := by decide +kernel
set_option maxRecDepth 65536 in
theorem w_named : about1.methodNamed? x = some theMethod := by decide +kernel
set_option maxRecDepth 65536 in
theorem w_hears : about1.hears theMethod below0 = true := by decide +kernel
set_option maxRecDepth 65536 in
theorem w_ripe : about1.ripe theMethod args0 below0 = true := by decide +kernel
theorem w_running : about1.status = .running := rfl
set_option maxRecDepth 65536 in
theorem w_room : about1.hasRoom e0.platform room_1 = true :=
  launch0.hasRoom_least _ room_1 (by decide +kernel) (by decide +kernel) (by decide +kernel) (by decide +kernel) (by decide +kernel) (by decide +kernel)
theorem allAtoms_all (ts : List Jvm.Cond) (a : Array Jvm.Value) (st : Jvm.State) : (allAtoms ts).before a st = ts.all (fun c => c.before a st) := by
  induction ts with
  | nil => rfl
  | cons c t ih =>
    show (Jvm.Cond.and c (allAtoms t)).before a st = _
    rw [Jvm.Cond.before_and, ih, List.all_cons]
def words1 : List Jvm.Cond := Jvm.Cond.code x code maxLocals ret :: tables_1
/-- a 'code' word, met by the world's own term for the bytes: nothing is compared byte by byte -/
theorem code_word {y : MethodName} {bytes : ByteArray} {mx : Nat} {rt : Option FieldType} {a : Array Value} {s : State} {m : MethodId} {meth : Method} {c : Code} (h1 : s.methodNamed? y = some m) (h2 : s.vm.method? m = some meth) (h3 : meth.code = some c) (h4 : c.code = bytes)
    (h5 : (c.maxLocals == mx && c.exceptionTable.isEmpty && decide (c.maxStack ≤ mostOperands) && decide (meth.sig.returnType = rt) && !meth.locks && decide (parseMethodDescriptor y.desc = some meth.sig)) = true) : (Jvm.Cond.code y bytes mx rt).before a s = true := by
  simp only [Bool.and_eq_true, beq_iff_eq, Bool.not_eq_true', decide_eq_true_eq] at h5
  obtain ⟨⟨⟨⟨⟨g1, g2⟩, g3⟩, g4⟩, g5⟩, g6⟩ := h5
  simp [Cond.before, Cond.holds, Cond.value, h1, h2, h3, h4, g1, g2, g3, g4, g5, g6]
def isCode : Jvm.Cond → Bool
  | .code _ _ _ _ => true
  | _ => false
theorem all_split {L : List Jvm.Cond} {P : Jvm.Cond → Bool} (h1 : L.all (fun c => isCode c || P c) = true) (h2 : ∀ c ∈ L.filter isCode, P c = true) : L.all P = true := by
  refine List.all_eq_true.mpr fun c hc => ?_
  have h := List.all_eq_true.mp h1 c hc
  rcases Bool.eq_false_or_eq_true (isCode c) with hi | hi
  · exact h2 c (List.mem_filter.mpr ⟨hc, hi⟩)
  · simpa [hi] using h
set_option maxRecDepth 65536 in
theorem w_c0 : (Jvm.Cond.code x code maxLocals ret).before args0 about1 = true := code_word (m := ⟨1, 4⟩) (meth := k1m4) (c := k1c4) (by decide +kernel) rfl rfl rfl (by decide +kernel)
set_option maxRecDepth 65536 in
theorem w_c1 : (Jvm.Cond.code ({ cls := "com/example/durable_coordinator/durablecoordinator/protocol/ApiKeyServesPinLaw", name := "pick", desc := "(I)Lcom/example/durable_coordinator/durablecoordinator/protocol/ApiKey;" } : Jvm.MethodName) method_2_code (1 : Nat) (Option.some (Jvm.ClassFile.FieldType.object "com/example/durable_coordinator/durablecoordinator/protocol/ApiKey"))).before args0 about1 = true := code_word (m := ⟨1, 1⟩) (meth := k1m1) (c := k1c1) (by decide +kernel) rfl rfl rfl (by decide +kernel)
set_option maxRecDepth 65536 in
theorem w_c2 : (Jvm.Cond.code ({ cls := "com/example/durable_coordinator/durablecoordinator/protocol/ApiKeyServesPinLaw", name := "lo", desc := "(I)I" } : Jvm.MethodName) method_3_code (1 : Nat) (Option.some Jvm.ClassFile.FieldType.int)).before args0 about1 = true := code_word (m := ⟨1, 2⟩) (meth := k1m2) (c := k1c2) (by decide +kernel) rfl rfl rfl (by decide +kernel)
set_option maxRecDepth 65536 in
theorem w_c3 : (Jvm.Cond.code ({ cls := "com/example/durable_coordinator/durablecoordinator/protocol/ApiKeyServesPinLaw", name := "hi", desc := "(I)I" } : Jvm.MethodName) method_4_code (1 : Nat) (Option.some Jvm.ClassFile.FieldType.int)).before args0 about1 = true := code_word (m := ⟨1, 3⟩) (meth := k1m3) (c := k1c3) (by decide +kernel) rfl rfl rfl (by decide +kernel)
set_option maxRecDepth 65536 in
theorem w_c4 : (Jvm.Cond.code ({ cls := "com/example/durable_coordinator/durablecoordinator/protocol/ApiKey", name := "serves", desc := "(S)Z" } : Jvm.MethodName) prog_57_method_8_code (2 : Nat) (Option.some Jvm.ClassFile.FieldType.boolean)).before args0 about1 = true := code_word (m := ⟨6, 0⟩) (meth := k6m0) (c := k6c0) (by decide +kernel) rfl rfl rfl (by decide +kernel)
def codes1 : List Jvm.Cond := [Jvm.Cond.code x code maxLocals ret, Jvm.Cond.code ({ cls := "com/example/durable_coordinator/durablecoordinator/protocol/ApiKeyServesPinLaw", name := "pick", desc := "(I)Lcom/example/durable_coordinator/durablecoordinator/protocol/ApiKey;" } : Jvm.MethodName) method_2_code (1 : Nat) (Option.some (Jvm.ClassFile.FieldType.object "com/example/durable_coordinator/durablecoordinator/protocol/ApiKey")), Jvm.Cond.code ({ cls := "com/example/durable_coordinator/durablecoordinator/protocol/ApiKeyServesPinLaw", name := "lo", desc := "(I)I" } : Jvm.MethodName) method_3_code (1 : Nat) (Option.some Jvm.ClassFile.FieldType.int), Jvm.Cond.code ({ cls := "com/example/durable_coordinator/durablecoordinator/protocol/ApiKeyServesPinLaw", name := "hi", desc := "(I)I" } : Jvm.MethodName) method_4_code (1 : Nat) (Option.some Jvm.ClassFile.FieldType.int), Jvm.Cond.code ({ cls := "com/example/durable_coordinator/durablecoordinator/protocol/ApiKey", name := "serves", desc := "(S)Z" } : Jvm.MethodName) prog_57_method_8_code (2 : Nat) (Option.some Jvm.ClassFile.FieldType.boolean)]
set_option maxRecDepth 65536 in
theorem codes_eq : words1.filter isCode = codes1 := rfl
theorem w_codes : ∀ c ∈ words1.filter isCode, c.before args0 about1 = true := by
  rw [codes_eq]
  intro c hc
  simp only [codes1, List.mem_cons, List.not_mem_nil, or_false] at hc
  rcases hc with rfl | rfl | rfl | rfl | rfl
  · exact w_c0
  · exact w_c1
  · exact w_c2
  · exact w_c3
  · exact w_c4
set_option maxRecDepth 65536 in
theorem w_t1 : (words1.take 24).all (fun c => isCode c || c.before args0 about1) = true := by decide +kernel
set_option maxRecDepth 65536 in
theorem w_t2 : (words1.drop 24).all (fun c => isCode c || c.before args0 about1) = true := by decide +kernel
theorem w_tables : (allAtoms (Jvm.Cond.code x code maxLocals ret :: tables_1)).before args0 about1 = true := by
  rw [allAtoms_all]
  show words1.all (fun c => c.before args0 about1) = true
  refine all_split ?_ w_codes
  rw [← List.take_append_drop 24 words1, List.all_append, w_t1, w_t2]
  rfl
set_option maxRecDepth 65536 in
theorem w_case : (Jvm.Cond.and given_1 narrow_1).before args0 about1 = true := by decide +kernel
theorem w_applies : (headSpec (Jvm.Cond.code x code maxLocals ret :: tables_1) room_1).applies x e0.platform about1 = true :=
  (Spec.applies_iff w_frames).mpr ⟨w_running, w_runnable, w_alone, w_named, w_hears, w_ripe, w_room, w_tables⟩
theorem atStart : AtStart classFile x code maxLocals ret World_1 tables_1 room_1 Calls_1 rest_1 Pre_1 launch0 p0 e0 about1 theMethod args0 below0 :=
  ⟨lists_1, trivial, launch0.admits_env _ _ _, launch0.least_env, fairChoices_fair.cas, fairChoices_fair.clock, w_frames, w_args, w_heap, w_applies, trivial, trivial, w_case⟩
end start1
theorem witness_1 : WitnessClaimed_1 := ⟨start1.p0, start1.e0, start1.about1, start1.theMethod, start1.args0, start1.below0, start1.atStart⟩
end Jvm.Pilot.@@N@@
