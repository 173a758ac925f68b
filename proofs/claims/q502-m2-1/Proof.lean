import JvmDerived
import JvmDerived.Pilot.@@N@@Statement
import JvmDerived.Pilot.@@N@@Code
set_option linter.unusedVariables false
set_option linter.unusedSimpArgs false
namespace Jvm.OwnKit
open Sem ClassFile Op Lib Jvm.Stand Jvm.Free Jvm.LawKit Jvm.RoadKit
section Core
variable {p : Program} {l : Launch} {e : Env} {R : Room} {s : State} {m : MethodId} {args : Array Value} {below : List Frame} {meth : Method} {c : Code} {T T' : State} {locs : List Loc} {cells slots : Nat} {Z : State} {a0 : Array Value} {h : Heap}
  {Q Q' : Option Value → Heap → List Loc → Prop} {kc ks : Nat} {F : Outcome → State → Prop}
/-- from the frame f over T the body comes to its end, and F holds there -/
def GoG (p : Program) (e : Env) (below : List Frame) (F : Outcome → State → Prop) (T : State) (f : JFrame) : Prop :=
  ∃ t o, Steps p.tables e below (T.setTop f) t ∧ t.status = .running ∧ Ended t below o ∧ F o t
/-- .. Q holds there, and the frame is kept -/
def Fin (s : State) (Q : Option Value → Heap → List Loc → Prop) (kc ks : Nat) : Outcome → State → Prop := fun o t => ∃ v L, o = .returned v ∧ Q v t.heap L ∧ FrameEnd s o t L kc ks
abbrev Go (p : Program) (e : Env) (below : List Frame) (s : State) (Q : Option Value → Heap → List Loc → Prop) (kc ks : Nat) (T : State) (f : JFrame) : Prop := GoG p e below (Fin s Q kc ks) T f
theorem Go.back {f f' : JFrame} (st : ∀ t, Steps p.tables e below (T'.setTop f') t → Steps p.tables e below (T.setTop f) t) (k : GoG p e below F T' f') : GoG p e below F T f := by
  obtain ⟨t, o, h1, h2⟩ := k; exact ⟨t, o, st _ h1, h2⟩
theorem Go.cast {f f' : JFrame} (q : f = f') (k : GoG p e below F T f') : GoG p e below F T f := q ▸ k
theorem Go.imp {f : JFrame} (q : ∀ v h L, Q' v h L → Q v h L) (k : Go p e below s Q' kc ks T f) : Go p e below s Q kc ks T f := by
  obtain ⟨t, o, h1, h2, h3, v, L, h4, h5, h6⟩ := k; exact ⟨t, o, h1, h2, h3, v, L, h4, q _ _ _ h5, h6⟩
theorem Go.done (X : Stand p l e R s m args below meth c T locs cells slots) {v : Option Value} {f0 : JFrame} (hv : meth.sig.returnType = none → v = none) (hlk : meth.locks = false)
    (st : ∀ fs, (∀ (f : JFrame) (acts : List Action), f.method = m → f.locked = none → f.entered = [] → (doReturn e (T.setTop f) acts v).1 = T.setFrames fs) → Steps p.tables e below (T.setTop f0) (T.setFrames fs))
    (hQ : Q v T.heap locs) (hc : cells ≤ kc) (hs : slots ≤ ks) : Go p e below s Q kc ks T f0 := by
  obtain ⟨fs, hr, hrun, hended, hW, hsame⟩ := X.leave (v := v) hv hlk
  exact ⟨_, _, st fs hr, hrun, hended, v, locs, rfl, hQ, ⟨_, rfl⟩, hW, hsame.mono hc hs⟩
theorem Go.retI (X : Stand p l e R s m args below meth c T locs cells slots) (hx : p.tables.exec = Jvm.exec) {pc : Nat} {Ls : Array Slot} {z : Int32} {rest : List Value} (hret : meth.sig.returnType = some .int) (hlk : meth.locks = false) (hd : decode c.code pc = .ok (.ireturn, 1))
    (hQ : Q (some (.int z)) T.heap locs) (hc : cells ≤ kc) (hs : slots ≤ ks) : Go p e below s Q kc ks T (mkF m pc Ls (.int z :: rest)) :=
  Go.done X (fun q => by rw [hret] at q; cases q) hlk (fun _ hl => retOut X hx hret rfl (Or.inl ⟨rfl, Or.inl rfl, z, rfl⟩) hd hl) hQ hc hs
theorem Go.retJ (X : Stand p l e R s m args below meth c T locs cells slots) (hx : p.tables.exec = Jvm.exec) {pc : Nat} {Ls : Array Slot} {z : Int64} {rest : List Value} (hret : meth.sig.returnType = some .long) (hlk : meth.locks = false) (hd : decode c.code pc = .ok (.lreturn, 1))
    (hQ : Q (some (.long z)) T.heap locs) (hc : cells ≤ kc) (hs : slots ≤ ks) : Go p e below s Q kc ks T (mkF m pc Ls (.long z :: rest)) :=
  Go.done X (fun q => by rw [hret] at q; cases q) hlk (fun _ hl => retOut X hx hret rfl (Or.inr (Or.inl ⟨rfl, rfl, z, rfl⟩)) hd hl) hQ hc hs
theorem narrow_ref {t : FieldType} {w : Value} (hw : w.isRef = true) : narrow t w = w := by
  cases w <;> simp [Value.isRef] at hw <;> cases t <;> rfl
theorem Go.retA (X : Stand p l e R s m args below meth c T locs cells slots) (hx : p.tables.exec = Jvm.exec) {pc : Nat} {Ls : Array Slot} {w : Value} {t : FieldType} {rest : List Value} (hret : meth.sig.returnType = some t) (hlk : meth.locks = false) (hd : decode c.code pc = .ok (.areturn, 1)) (ht : t.isReference = true) (hw : w.isRef = true)
    (hQ : Q (some w) T.heap locs) (hc : cells ≤ kc) (hs : slots ≤ ks) : Go p e below s Q kc ks T (mkF m pc Ls (w :: rest)) :=
  Go.done X (fun q => by rw [hret] at q; cases q) hlk (fun _ hl => retOut X hx hret (narrow_ref hw) (Or.inr (Or.inr (Or.inr (Or.inr ⟨rfl, ht, hw⟩)))) hd hl) hQ hc hs
theorem Go.ret0 (X : Stand p l e R s m args below meth c T locs cells slots) (hx : p.tables.exec = Jvm.exec) {pc : Nat} {Ls : Array Slot} (hret : meth.sig.returnType = none) (hlk : meth.locks = false) (hd : decode c.code pc = .ok (.return_, 1))
    (hQ : Q none T.heap locs) (hc : cells ≤ kc) (hs : slots ≤ ks) : Go p e below s Q kc ks T (mkF m pc Ls []) :=
  Go.done X (fun _ => rfl) hlk (fun _ hl => X.returnOut hx hret hd hl) hQ hc hs
theorem Go.retN (X : Stand p l e R s m args below meth c T locs cells slots) (hx : p.tables.exec = Jvm.exec) {pc : Nat} {Ls : Array Slot} {z w : Int32} {t : FieldType} {rest : List Value} (hret : meth.sig.returnType = some t) (ht : t = .boolean ∨ t = .byte ∨ t = .char ∨ t = .short) (hw : nar t z = w) (hlk : meth.locks = false) (hd : decode c.code pc = .ok (.ireturn, 1))
    (hQ : Q (some (.int w)) T.heap locs) (hc : cells ≤ kc) (hs : slots ≤ ks) : Go p e below s Q kc ks T (mkF m pc Ls (.int z :: rest)) :=
  Go.done X (fun q => by rw [hret] at q; cases q) hlk (fun _ hl => Jvm.RoadKit.retN X hx hret ht hd (by rw [hw]; exact hl)) hQ hc hs
theorem nar_bool {z : Int32} (hz : z = 0 ∨ z = 1) : nar .boolean z = z := by rcases hz with rfl | rfl <;> rfl
/-- a body's contract, said of one heap and one array of arguments -/
def Met (l : Launch) (Z : State) (y : MethodName) (bytes : ByteArray) (maxL : Nat) (ret : Option FieldType) (rm : Room) (as' : Array Value) (h : Heap) (Q : Option Value → Heap → List Loc → Prop) : Prop :=
  ∀ ws : List Jvm.Cond, MetFree l y (head1 (Jvm.Cond.code y bytes maxL ret :: ws) rm) (fun a U => a = as' ∧ Z.Warmed39 U.vm ∧ U.heap = h) (fun _ _ _ _ _ => True) (fun _ U o U' => ∃ v L, o = .returned v ∧ Q v U'.heap L ∧ FrameEnd U o U' L rm.cells rm.slots)
variable {y z : MethodName} {bytes : ByteArray} {maxL : Nat} {ret : Option FieldType} {rm : Room} {as' : Array Value}
theorem Met.intro (hp : plainFor y = true) (body : ∀ (p : Program) (e : Env) (s : State) (m : MethodId) (below : List Frame) (meth : Method) (c : Code) (T : State),
      p.tables.exec = Jvm.exec → c.code = bytes → c.maxLocals = maxL → s.vm.findClass y.cls = some m.cls → meth.name = y.name → meth.sig.returnType = ret → meth.locks = false → Z.Warmed39 s.vm →
      Stand p l e rm s m as' below meth c T [] 0 0 → T.heap = h → Go p e below s Q rm.cells rm.slots T (entryFrame m as' maxL)) : Met l Z y bytes maxL ret rm as' h Q := by
  intro ws
  refine MetFree.of_bodySF hp hisR ?_
  intro p e s m args below meth c s₁ Bd hml0 hP hK
  obtain ⟨rfl, hZ, hh⟩ := hP
  exact body p e s m below meth c s₁ Bd.exec Bd.bytes hml0 (findClass_of_methodNamed Bd.named) (name_of_methodNamed Bd.named Bd.method).1 Bd.returns Bd.notSynchronized hZ (Stand.of_body Bd) (by rw [← hh, Bd.state]; rfl)
theorem Met.imp (q : ∀ v h L, Q' v h L → Q v h L) (k : Met l Z y bytes maxL ret rm as' h Q') : Met l Z y bytes maxL ret rm as' h Q := fun ws p e ha hc hk s m args below hf happ hP hK => by
  obtain ⟨n, o, h1, h2, h3, v, L, h4, h5, h6⟩ := k ws p e ha hc hk s m args below hf happ hP hK
  exact ⟨n, o, h1, h2, h3, v, L, h4, q _ _ _ h5, h6⟩
theorem Go.callS (X : Stand p l e R s m args below meth c T locs cells slots) (hx : p.tables.exec = Jvm.exec) (hZ : Z.Warmed39 s.vm) {own : String} {index : Nat} (hown : s.vm.findClass own = some m.cls)
    (w1 : (Jvm.Cond.methodLink own index y).before a0 Z = true) (w2 : (Jvm.Cond.static y).before a0 Z = true) (w3 : (Jvm.Cond.initialized y.cls).before a0 Z = true) (w4 : (Jvm.Cond.code y bytes maxL ret).before a0 Z = true)
    (hy : y.cls ≠ "java/lang/invoke/MethodHandle" ∧ y.cls ≠ "java/lang/invoke/VarHandle") (eT : T.heap = h) {argsL rest st : List Value} (hM : Met l Z y bytes maxL ret rm argsL.toArray h Q')
    (hlen : ∀ sig, parseMethodDescriptor y.desc = some sig → argsL.length = sig.parameters.length) {pc : Nat} {Ls : Array Slot} (hst : st = argsL.reverse ++ rest) (hsz : Ls.size = c.maxLocals) {W : Nat} (hW : 2 * 0 + (rest.map fun v => v.category).sum ≤ W)
    (hd : decode c.code pc = .ok (.invokestatic index, 3)) (hf : rm.frames + 1 ≤ R.frames) (hl : W + (maxL + 11) + rm.locals ≤ R.locals) (hc : cells + rm.cells ≤ R.cells) (hs : slots + rm.slots ≤ R.slots)
    (k : ∀ v T' L, Stand p l e R s m args below meth c T' (locs ++ L) (cells + rm.cells) (slots + rm.slots) → Q' v T'.heap L → GoG p e below F T' (mkF m (pc + 3) Ls (v.toList ++ rest))) :
    GoG p e below F T (mkF m pc Ls st) := by
  subst hst
  obtain ⟨v, _, ⟨T1, L1, k1, n1⟩, -, X1, ⟨Lc, hQ, l1, y1, z1⟩, st1⟩ := Jvm.LawKit.callS X hx (y := y) hown (mvT hZ w1) (mvT hZ w2) (mvT hZ w3) (mvT hZ w4) hy (backOf (W := W) (hM []) hZ w4 w3 hf hl) (g := mkF m pc Ls (argsL.reverse ++ rest)) rfl hsz (argsL := argsL) (rest := rest) hlen rfl hW hd (fun _ _ => ⟨rfl, eT, hc, hs⟩)
  dsimp only [Pt.U, Pt.locs, Pt.cells, Pt.slots] at X1 l1 y1 z1 st1 hQ
  subst l1 y1 z1
  exact Go.back st1 (k v T1 Lc X1 hQ)
theorem Go.callI (X : Stand p l e R s m args below meth c T locs cells slots) (hx : p.tables.exec = Jvm.exec) (hZ : Z.Warmed39 s.vm) {own : String} {index : Nat} (hy1 : y.name = "<init>") (hown : s.vm.findClass own = some m.cls)
    (w1 : (Jvm.Cond.methodLink own index y).before a0 Z = true) (w2 : (Jvm.Cond.instanceMethod y).before a0 Z = true) (w3 : (Jvm.Cond.initialized y.cls).before a0 Z = true) (w4 : (Jvm.Cond.code y bytes maxL none).before a0 Z = true)
    (hy : y.cls ≠ "java/lang/invoke/MethodHandle" ∧ y.cls ≠ "java/lang/invoke/VarHandle") (eT : T.heap = h) {a : Addr} {argsL rest st : List Value} (hM : Met l Z y bytes maxL none rm (.ref a :: argsL).toArray h Q')
    (hlen : ∀ sig, parseMethodDescriptor y.desc = some sig → argsL.length = sig.parameters.length) {pc : Nat} {Ls : Array Slot} (hst : st = argsL.reverse ++ .ref a :: rest) (hsz : Ls.size = c.maxLocals) {W : Nat} (hW : 2 * 0 + (rest.map fun v => v.category).sum ≤ W)
    (hd : decode c.code pc = .ok (.invokespecial index, 3)) (hf : rm.frames + 1 ≤ R.frames) (hl : W + (maxL + 11) + rm.locals ≤ R.locals) (hc : cells + rm.cells ≤ R.cells) (hs : slots + rm.slots ≤ R.slots)
    (k : ∀ v T' L, Stand p l e R s m args below meth c T' (locs ++ L) (cells + rm.cells) (slots + rm.slots) → Q' v T'.heap L → GoG p e below F T' (mkF m (pc + 3) Ls (v.toList ++ rest))) :
    GoG p e below F T (mkF m pc Ls st) := by
  subst hst
  obtain ⟨v, _, ⟨T1, L1, k1, n1⟩, -, X1, ⟨Lc, hQ, l1, y1, z1⟩, st1⟩ := X.specialBack hx (y := y) hy1 hown (mvT hZ w1) (mvT hZ w2) (mvT hZ w4) hy (backOf (W := W) (hM []) hZ w4 w3 hf hl) (g := mkF m pc Ls (argsL.reverse ++ .ref a :: rest)) rfl hsz (Steps.refl _) (a := a) (argsL := argsL) (rest := rest) hlen rfl hW hd (fun _ _ => ⟨rfl, eT, hc, hs⟩)
  dsimp only [Pt.U, Pt.locs, Pt.cells, Pt.slots] at X1 l1 y1 z1 st1 hQ
  subst l1 y1 z1
  exact Go.back (fun _ q => st1.trans q) (k v T1 Lc X1 hQ)
theorem Go.callV (X : Stand p l e R s m args below meth c T locs cells slots) (hx : p.tables.exec = Jvm.exec) (hZ : Z.Warmed39 s.vm) {own C : String} {index : Nat} (hown : s.vm.findClass own = some m.cls)
    (w1 : (Jvm.Cond.methodLink own index y).before a0 Z = true) (w2 : (Jvm.Cond.declares y).before a0 Z = true) (w3 : (Jvm.Cond.selects C y y).before a0 Z = true) (w4 : (Jvm.Cond.instanceMethod y).before a0 Z = true)
    (w5 : (Jvm.Cond.initialized y.cls).before a0 Z = true) (w6 : (Jvm.Cond.code y bytes maxL ret).before a0 Z = true)
    (hy : y.cls ≠ "java/lang/invoke/MethodHandle" ∧ y.cls ≠ "java/lang/invoke/VarHandle") (eT : T.heap = h) {a : Addr} (E : Exa Z h a C) {argsL rest st : List Value} (hM : Met l Z y bytes maxL ret rm (.ref a :: argsL).toArray h Q')
    (hlen : ∀ sig, parseMethodDescriptor y.desc = some sig → argsL.length = sig.parameters.length) {pc : Nat} {Ls : Array Slot} (hst : st = argsL.reverse ++ .ref a :: rest) (hsz : Ls.size = c.maxLocals) {W : Nat} (hW : 2 * 0 + (rest.map fun v => v.category).sum ≤ W)
    (hd : decode c.code pc = .ok (.invokevirtual index, 3)) (hf : rm.frames + 1 ≤ R.frames) (hl : W + (maxL + 11) + rm.locals ≤ R.locals) (hc : cells + rm.cells ≤ R.cells) (hs : slots + rm.slots ≤ R.slots)
    (k : ∀ v T' L, Stand p l e R s m args below meth c T' (locs ++ L) (cells + rm.cells) (slots + rm.slots) → Q' v T'.heap L → GoG p e below F T' (mkF m (pc + 3) Ls (v.toList ++ rest))) :
    GoG p e below F T (mkF m pc Ls st) := by
  subst hst
  obtain ⟨cq, kq, qa, qb, qc⟩ := isOf hZ eT E
  obtain ⟨v, _, ⟨T1, L1, k1, n1⟩, -, X1, ⟨Lc, hQ, l1, y1, z1⟩, st1⟩ := X.virtualBack hx (y := y) (z := y) hown (mvT hZ w1) (mvT hZ w2) (notFace_of_selects (args := #[]) (mvT hZ w3)) (mvT hZ w3) (mvT hZ w4) hy (backOf (W := W) (hM []) hZ w6 w5 hf hl) qa qc (g := mkF m pc Ls (argsL.reverse ++ .ref a :: rest)) rfl hsz (Steps.refl _) (argsL := argsL) (rest := rest) hlen rfl hW hd (fun _ _ => ⟨rfl, eT, hc, hs⟩)
  dsimp only [Pt.U, Pt.locs, Pt.cells, Pt.slots] at X1 l1 y1 z1 st1 hQ
  subst l1 y1 z1
  exact Go.back (fun _ q => st1.trans q) (k v T1 Lc X1 hQ)
end Core
section Cmp
theorem l_lt_t {x y : Int64} (h : x < y) : ifCond.holds .lt (lcmpW x y) = true := (if0 _ _).trans (tlt ((lw_lt x y).mpr h)).1
theorem l_lt_f {x y : Int64} (h : ¬ x < y) : ifCond.holds .lt (lcmpW x y) = false := (if0 _ _).trans (flt (fun q => h ((lw_lt x y).mp q))).1
theorem l_ge_t {x y : Int64} (h : ¬ x < y) : ifCond.holds .ge (lcmpW x y) = true := (if0 _ _).trans (flt (fun q => h ((lw_lt x y).mp q))).2.1
theorem l_ge_f {x y : Int64} (h : x < y) : ifCond.holds .ge (lcmpW x y) = false := (if0 _ _).trans (tlt ((lw_lt x y).mpr h)).2.1
theorem l_gt_t {x y : Int64} (h : y < x) : ifCond.holds .gt (lcmpW x y) = true := (if0 _ _).trans (tlt ((lw_gt x y).mpr h)).2.2.1
theorem l_gt_f {x y : Int64} (h : ¬ y < x) : ifCond.holds .gt (lcmpW x y) = false := (if0 _ _).trans (flt (fun q => h ((lw_gt x y).mp q))).2.2.1
theorem l_le_t {x y : Int64} (h : ¬ y < x) : ifCond.holds .le (lcmpW x y) = true := (if0 _ _).trans (flt (fun q => h ((lw_gt x y).mp q))).2.2.2
theorem l_le_f {x y : Int64} (h : y < x) : ifCond.holds .le (lcmpW x y) = false := (if0 _ _).trans (tlt ((lw_gt x y).mpr h)).2.2.2
theorem l_eq_t {x y : Int64} (h : x = y) : ifCond.holds .eq (lcmpW x y) = true := (if0 _ _).trans (teq ((lw_eq x y).mpr h)).1
theorem l_eq_f {x y : Int64} (h : ¬ x = y) : ifCond.holds .eq (lcmpW x y) = false := (if0 _ _).trans (feq (fun q => h ((lw_eq x y).mp q))).1
theorem l_ne_t {x y : Int64} (h : ¬ x = y) : ifCond.holds .ne (lcmpW x y) = true := (if0 _ _).trans (feq (fun q => h ((lw_eq x y).mp q))).2
theorem l_ne_f {x y : Int64} (h : x = y) : ifCond.holds .ne (lcmpW x y) = false := (if0 _ _).trans (teq ((lw_eq x y).mpr h)).2
end Cmp
end Jvm.OwnKit
namespace Jvm.OwnKit
open Sem ClassFile Op Lib Jvm.Stand Jvm.Free Jvm.LawKit Jvm.RoadKit
section Arrays
variable {p : Program} {l : Launch} {e : Env} {R : Room} {s : State} {m : MethodId} {args : Array Value} {below : List Frame} {meth : Method} {c : Code} {T T' : State} {locs : List Loc} {cells slots : Nat} {Z : State} {a0 : Array Value} {h h' : Heap}
  {F : Outcome → State → Prop} {a b : Addr} {ty : FieldType} {vs vd : List Value} {j x : Int32} {i : Nat} {v : Value} {pc : Nat} {Ls : Array Slot} {rest : List Value}
/-- an array, all of its components told -/
def VArr (Z : State) (h : Heap) (a : Addr) (ty : FieldType) (vs : List Value) : Prop := vs.length < 2147483648 ∧ ∃ k, Arv Z h a k ty vs.length.toInt32 vs (defaultValue ty)
theorem n32 {n : Nat} (q : n < 2147483648) : n.toInt32.toInt = n := len_toInt q
theorem n32c {n : Nat} (q : n < 2147483648) : n.toInt32.toNatClampNeg = n := by simp only [Int32.toNatClampNeg, n32 q]; rfl
theorem idx0 (hi : j.toInt = i) : ¬ j < 0 := by rw [Int32.lt_iff_toInt_lt, hi]; show ¬ (i : Int) < 0; omega
theorem idxN (hi : j.toInt = i) : j.toNatClampNeg = i := by simp only [Int32.toNatClampNeg, hi]; rfl
theorem VArr.lt (A : VArr Z h a ty vs) : a < h.size := by obtain ⟨-, k, A⟩ := A; exact A.lt
theorem VArr.len (A : VArr Z h a ty vs) : vs.length < 2147483648 := A.1
theorem VArr.ext (A : VArr Z h a ty vs) (E : Ext h h') : VArr Z h' a ty vs := by obtain ⟨q, k, A⟩ := A; exact ⟨q, k, A.ext E⟩
theorem VArr.other {sl : Nat} (A : VArr Z h b ty vs) (W : Wr h h' a sl v) (q : b ≠ a) : VArr Z h' b ty vs := by obtain ⟨r, k, A⟩ := A; exact ⟨r, k, A.other W q⟩
theorem VArr.keep {ws : List Addr} (A : VArr Z h a ty vs) (K : Keep h h' ws) (q : a ∉ ws) : VArr Z h' a ty vs := by obtain ⟨r, k, A⟩ := A; exact ⟨r, k, A.keep K q⟩
theorem VArr.to (A : VArr Z h a ty vs) (e : vs = vd) : VArr Z h a ty vd := e ▸ A
theorem VArr.cell (A : VArr Z h a ty vs) : ∃ cl, Arr Z h a cl ty ∧ cl.slots.size = vs.length ∧ Has cl vs (defaultValue ty) := by
  obtain ⟨q, k, cl, A, -, S, N, H, -⟩ := A
  exact ⟨cl, A, by rw [S, n32c q], H⟩
theorem VArr.at (A : VArr Z h a ty vs) (hi : j.toInt = i) (hv : vs[i]? = some v) : ∃ cl, Arr Z h a cl ty ∧ ¬ (j < 0 ∨ cl.slots.size ≤ j.toNatClampNeg) ∧ cl.slots[j.toNatClampNeg]? = some v := by
  obtain ⟨cl, A, S, H⟩ := A.cell
  obtain ⟨hl, e⟩ := List.getElem?_eq_some_iff.mp hv
  refine ⟨cl, A, fun q => ?_, ?_⟩
  · rw [idxN hi, S] at q; exact q.elim (idx0 hi) (by omega)
  · rw [idxN hi, H i (by omega), List.getD_eq_getElem?_getD, hv]; rfl
theorem VArr.exa_ne {C : String} {kk : Nat} (A : VArr Z h a ty vs) (E : Exa Z h b C) (wi : (Jvm.Cond.instantiable C kk).before a0 Z = true) : b ≠ a := by
  obtain ⟨cl, A, -, -⟩ := A.cell; exact ne_arr E wi A
theorem VArr.lenS (A : VArr Z h a ty vs) (X : Stand p l e R s m args below meth c T locs cells slots) (hx : p.tables.exec = Jvm.exec) (hZ : Z.Warmed39 s.vm) (eT : T.heap = h) (hd : decode c.code pc = .ok (.arraylength, 1)) :
    ∀ t, Steps p.tables e below (T.setTop (mkF m (pc + 1) Ls (.int vs.length.toInt32 :: rest))) t → Steps p.tables e below (T.setTop (mkF m pc Ls (.ref a :: rest))) t := by
  obtain ⟨cl, Ar, S, -⟩ := A.cell
  intro t k
  refine X.arraylength hx (by rw [eT]; exact Ar.1) (State.isArrayOf_alike hZ.alike Ar.2.1) (g := mkF m pc Ls (.ref a :: rest)) rfl rfl hd _ ?_
  rw [S]; exact k
theorem VArr.ldI (A : VArr Z h a .int vs) (X : Stand p l e R s m args below meth c T locs cells slots) (hx : p.tables.exec = Jvm.exec) (hZ : Z.Warmed39 s.vm) (eT : T.heap = h) (hd : decode c.code pc = .ok (.iaload, 1)) (hi : j.toInt = i) (hv : vs[i]? = some v) :
    ∀ t, Steps p.tables e below (T.setTop (mkF m (pc + 1) Ls (v :: rest))) t → Steps p.tables e below (T.setTop (mkF m pc Ls (.int j :: .ref a :: rest))) t := by
  obtain ⟨cl, Ar, q, r⟩ := A.at hi hv
  exact fun t k => X.iaload hx (j := j) (v := v) (by rw [eT]; exact Ar.1) (State.isArrayOf_alike hZ.alike Ar.2.1) Ar.2.2 q r (g := mkF m pc Ls (.int j :: .ref a :: rest)) rfl rfl hd _ k
theorem VArr.ldJ (A : VArr Z h a .long vs) (X : Stand p l e R s m args below meth c T locs cells slots) (hx : p.tables.exec = Jvm.exec) (hZ : Z.Warmed39 s.vm) (eT : T.heap = h) (hd : decode c.code pc = .ok (.laload, 1)) (hi : j.toInt = i) (hv : vs[i]? = some v) :
    ∀ t, Steps p.tables e below (T.setTop (mkF m (pc + 1) Ls (v :: rest))) t → Steps p.tables e below (T.setTop (mkF m pc Ls (.int j :: .ref a :: rest))) t := by
  obtain ⟨cl, Ar, q, r⟩ := A.at hi hv
  exact fun t k => X.laload hx (j := j) (v := v) (by rw [eT]; exact Ar.1) (State.isArrayOf_alike hZ.alike Ar.2.1) Ar.2.2 q r (g := mkF m pc Ls (.int j :: .ref a :: rest)) rfl rfl hd _ k
theorem VArr.ldB (A : VArr Z h a .byte vs) (X : Stand p l e R s m args below meth c T locs cells slots) (hx : p.tables.exec = Jvm.exec) (hZ : Z.Warmed39 s.vm) (eT : T.heap = h) (hd : decode c.code pc = .ok (.baload, 1)) (hi : j.toInt = i) (hv : vs[i]? = some v) :
    ∀ t, Steps p.tables e below (T.setTop (mkF m (pc + 1) Ls (v :: rest))) t → Steps p.tables e below (T.setTop (mkF m pc Ls (.int j :: .ref a :: rest))) t := by
  obtain ⟨cl, Ar, q, r⟩ := A.at hi hv
  exact fun t k => X.baloadBytes hx (j := j) (v := v) (by rw [eT]; exact Ar.1) (State.isArrayOf_alike hZ.alike Ar.2.1) Ar.2.2 q r (g := mkF m pc Ls (.int j :: .ref a :: rest)) rfl rfl hd _ k
theorem VArr.fit (A : VArr Z h a ty vs) (hv : vs[i]? = some v) : fits ty v = true := by
  obtain ⟨q, k, cl, A, -, S, N, H, G⟩ := A
  obtain ⟨hl, e⟩ := List.getElem?_eq_some_iff.mp hv
  have := G i (by rw [S, n32c q]; exact hl)
  rw [List.getD_eq_getElem?_getD, hv] at this; exact this
theorem VArr.set (A : VArr Z h a ty vs) (hv : fits ty v = true) (W : Wr h h' a i v) (hl : i < vs.length) : VArr Z h' a ty (vs.set i v) := by
  obtain ⟨q, k, cl, A, q1, S, N, H, G⟩ := A
  have q' : (vs.set i v).length < 2147483648 := by rw [List.length_set]; exact q
  refine ⟨q', k, ?_⟩
  rw [List.length_set]
  exact Arv.set (j := i.toInt32) A q1 S N H G hv (by rw [n32c (by omega)]; exact W) i (n32c (by omega)) hl
theorem VArr.in_ (A : VArr Z h a ty vs) (hi : j.toInt = i) (hl : i < vs.length) : ∃ cl, Arr Z h a cl ty ∧ ¬ (j < 0 ∨ cl.slots.size ≤ j.toNatClampNeg) := by
  obtain ⟨cl, A, S, H⟩ := A.cell
  refine ⟨cl, A, fun q => ?_⟩
  rw [idxN hi, S] at q; exact q.elim (idx0 hi) (by omega)
theorem Go.stI (A : VArr Z h a .int vs) (X : Stand p l e R s m args below meth c T locs cells slots) (hx : p.tables.exec = Jvm.exec) (hZ : Z.Warmed39 s.vm) (eT : T.heap = h) (hd : decode c.code pc = .ok (.iastore, 1)) (hi : j.toInt = i) (hl : i < vs.length)
    (k : ∀ T' h', Stand p l e R s m args below meth c T' (locs ++ [⟨a, i⟩]) cells slots → T'.heap = h' → Wr h h' a i (.int x) → VArr Z h' a .int (vs.set i (.int x)) → GoG p e below F T' (mkF m (pc + 1) Ls rest)) :
    GoG p e below F T (mkF m pc Ls (.int x :: .int j :: .ref a :: rest)) := by
  obtain ⟨cl, Ar, q⟩ := A.in_ hi hl
  obtain ⟨T', h', X', e', W, st⟩ := Jvm.RoadKit.stI X hx hZ eT Ar (j := j) (x := x) q (g := mkF m pc Ls (.int x :: .int j :: .ref a :: rest)) rfl rfl hd
  rw [idxN hi] at X' W
  exact Go.back st (k T' h' X' e' W (A.set rfl W hl))
theorem Go.stJ {x : Int64} (A : VArr Z h a .long vs) (X : Stand p l e R s m args below meth c T locs cells slots) (hx : p.tables.exec = Jvm.exec) (hZ : Z.Warmed39 s.vm) (eT : T.heap = h) (hd : decode c.code pc = .ok (.lastore, 1)) (hi : j.toInt = i) (hl : i < vs.length)
    (k : ∀ T' h', Stand p l e R s m args below meth c T' (locs ++ [⟨a, i⟩]) cells slots → T'.heap = h' → Wr h h' a i (.long x) → VArr Z h' a .long (vs.set i (.long x)) → GoG p e below F T' (mkF m (pc + 1) Ls rest)) :
    GoG p e below F T (mkF m pc Ls (.long x :: .int j :: .ref a :: rest)) := by
  obtain ⟨cl, Ar, q⟩ := A.in_ hi hl
  obtain ⟨T', h', X', e', W, st⟩ := Jvm.RoadKit.stJ X hx hZ eT Ar (j := j) (x := x) q (g := mkF m pc Ls (.long x :: .int j :: .ref a :: rest)) rfl rfl hd
  rw [idxN hi] at X' W
  exact Go.back st (k T' h' X' e' W (A.set rfl W hl))
theorem Go.stB (A : VArr Z h a .byte vs) (X : Stand p l e R s m args below meth c T locs cells slots) (hx : p.tables.exec = Jvm.exec) (hZ : Z.Warmed39 s.vm) (eT : T.heap = h) (hd : decode c.code pc = .ok (.bastore, 1)) (hi : j.toInt = i) (hl : i < vs.length)
    (k : ∀ T' h', Stand p l e R s m args below meth c T' (locs ++ [⟨a, i⟩]) cells slots → T'.heap = h' → Wr h h' a i (.int (nar .byte x)) → VArr Z h' a .byte (vs.set i (.int (nar .byte x))) → GoG p e below F T' (mkF m (pc + 1) Ls rest)) :
    GoG p e below F T (mkF m pc Ls (.int x :: .int j :: .ref a :: rest)) := by
  obtain ⟨cl, Ar, q⟩ := A.in_ hi hl
  obtain ⟨T', h', X', e', W, st⟩ := Jvm.RoadKit.stB X hx hZ eT Ar (j := j) (x := x) q (g := mkF m pc Ls (.int x :: .int j :: .ref a :: rest)) rfl rfl hd
  rw [idxN hi] at X' W
  exact Go.back st (k T' h' X' e' W (A.set (fits_nar_byte x) W hl))
theorem VArr.new {k : ClassId} {n : Int32} (A : Arr Z h a (newA k ty n) ty) (hi : n.toInt = i) : VArr Z h a ty (List.replicate i (defaultValue ty)) := by
  have hl : i < 2147483648 := by have := n.toInt_lt; omega
  have e : i.toInt32 = n := Int32.toInt_inj.mp (by rw [n32 hl, hi])
  refine ⟨by simpa using hl, k, ?_⟩
  rw [List.length_replicate, e]
  exact (Arv.new A (idx0 hi)).pad fun q => by have := pad_rep [] (defaultValue ty) i q; simpa using this
theorem Go.newA {aty : ArrayType} {n : Int32} {cap : Nat} (X : Stand p l e R s m args below meth c T locs cells slots) (hx : p.tables.exec = Jvm.exec) (hZ : Z.Warmed39 s.vm) (w : (Jvm.Cond.arrayClass (newarray.typeOf aty)).before a0 Z = true) (eT : T.heap = h) (hd : decode c.code pc = .ok (.newarray aty, 2))
    (hi : n.toInt = i) (hcap : i ≤ cap) (hb : cap * 8 ≤ 536870912) (hc : cells + 1 ≤ R.cells) (hl : slots + cap ≤ R.slots)
    (k : ∀ T' h' a, a = h.size → Stand p l e R s m args below meth c T' locs (cells + 1) (slots + cap) → T'.heap = h' → Ext h h' → VArr Z h' a (newarray.typeOf aty) (List.replicate i (defaultValue (newarray.typeOf aty))) → GoG p e below F T' (mkF m (pc + 2) Ls (.ref a :: rest))) :
    GoG p e below F T (mkF m pc Ls (.int n :: rest)) := by
  obtain ⟨T', h', cA, X', e', E, A, st⟩ := newP X hx hZ w eT (g := mkF m pc Ls (.int n :: rest)) rfl hd rfl (idx0 hi) (cap := cap) (by rw [idxN hi]; exact hcap) hb hc hl
  exact Go.back st (k T' h' _ rfl X' e' E (VArr.new A hi))
theorem Go.newAE {aty : ArrayType} {n : Int32} {cap : Nat} {ad : String} (had : "[" ++ (newarray.typeOf aty).toString = ad) (X : Stand p l e R s m args below meth c T locs cells slots) (hx : p.tables.exec = Jvm.exec) (hZ : Z.Warmed39 s.vm) (w : (Jvm.Cond.arrayClass (newarray.typeOf aty)).before a0 Z = true) (eT : T.heap = h) (hd : decode c.code pc = .ok (.newarray aty, 2))
    (hi : n.toInt = i) (hcap : i ≤ cap) (hb : cap * 8 ≤ 536870912) (hc : cells + 1 ≤ R.cells) (hl : slots + cap ≤ R.slots)
    (k : ∀ T' h' a, a = h.size → Stand p l e R s m args below meth c T' locs (cells + 1) (slots + cap) → T'.heap = h' → Ext h h' → VArr Z h' a (newarray.typeOf aty) (List.replicate i (defaultValue (newarray.typeOf aty))) → Exa Z h' a ad → GoG p e below F T' (mkF m (pc + 2) Ls (.ref a :: rest))) :
    GoG p e below F T (mkF m pc Ls (.int n :: rest)) := by
  obtain ⟨T', h', cA, X', e', E, A, B, st⟩ := newPE X hx hZ w eT (g := mkF m pc Ls (.int n :: rest)) rfl hd rfl (idx0 hi) (cap := cap) (by rw [idxN hi]; exact hcap) hb hc hl had
  exact Go.back st (k T' h' _ rfl X' e' E (VArr.new A hi) B)
theorem stretch (vs : List Value) (dv : Value) (i n : Nat) (q : i + n ≤ vs.length) : (vs.drop i).take n = (List.range n).map fun z => vs.getD (i + z) dv := by
  apply List.ext_getElem
  · simp; omega
  · intro k h1 h2
    simp at h1 h2 ⊢
    rw [List.getElem?_eq_getElem (by omega)]; rfl
theorem Go.cpy {own : String} {index n0 n : Nat} {sp dp nn : Int32} {j' : Nat} (X : Stand p l e R s m args below meth c T locs cells slots) (hx : p.tables.exec = Jvm.exec) (hZ : Z.Warmed39 s.vm) (hown : s.vm.findClass own = some m.cls)
    (w1 : (Jvm.Cond.methodLink own index Jvm.Stand.acN).before a0 Z = true) (w2 : (Jvm.Cond.native Jvm.Stand.acN).before a0 Z = true) (w3 : (Jvm.Cond.static Jvm.Stand.acN).before a0 Z = true) (w4 : (Jvm.Cond.initialized "java/lang/System").before a0 Z = true) (eT : T.heap = h)
    (A : VArr Z h a ty vs) (B : VArr Z h b ty vd) (hty : refKind ty = false) (hi : sp.toInt = i) (hj : dp.toInt = j') (hn : nn.toInt = n) (b1 : i + n ≤ vs.length) (b2 : j' + n ≤ vd.length) (N : Fr n0 locs) (ge : n0 ≤ b)
    (hsz : Ls.size = c.maxLocals) (hd : decode c.code pc = .ok (.invokestatic index, 3)) (hf : 1 ≤ R.frames) {W : Nat} (hW : 2 * 0 + (rest.map fun v => v.category).sum ≤ W) (hlo : W + (nativeFrameWords "java/lang/System" "arraycopy" 5 + 11) ≤ R.locals)
    (k : ∀ T' h' L, Stand p l e R s m args below meth c T' L cells slots → T'.heap = h' → Fr n0 L → Keep h h' [b] → VArr Z h' b ty (vd.take j' ++ (vs.drop i).take n ++ vd.drop (j' + n)) → GoG p e below F T' (mkF m (pc + 3) Ls rest)) :
    GoG p e below F T (mkF m pc Ls (.int nn :: .int dp :: .ref b :: .int sp :: .ref a :: rest)) := by
  obtain ⟨q1, k1, A1⟩ := A
  obtain ⟨q2, k2, B1⟩ := B
  obtain ⟨T', h', L, X', e', N', K, V, st⟩ := cpA X hx hZ hown w1 w2 w3 w4 eT A1 B1 (us := (vs.drop i).take n) (Or.inl ⟨rfl, hty⟩) (sp := sp) (dp := dp) (nn := nn) (idx0 hi) (idx0 hj) (idx0 hn) (by rw [idxN hi, idxN hn, n32c q1]; exact b1) (by rw [idxN hj, idxN hn, n32c q2]; exact b2) (by rw [idxN hi, idxN hn]; exact stretch vs _ i n b1) (by rw [idxN hj, idxN hn]; exact b2) N ge (g := mkF m pc Ls (.int nn :: .int dp :: .ref b :: .int sp :: .ref a :: rest)) rfl hsz rfl hd hf (W := W) hW hlo
  rw [idxN hj, idxN hn] at V
  refine Go.back st (k T' h' L X' e' N' K ?_)
  have el : (vd.take j' ++ (vs.drop i).take n ++ vd.drop (j' + n)).length = vd.length := by simp; omega
  exact ⟨by rw [el]; exact q2, k2, by rw [el]; exact V⟩
end Arrays
end Jvm.OwnKit
namespace Jvm.OwnKit
open Sem ClassFile Op Lib Jvm.Stand Jvm.Free Jvm.LawKit Jvm.RoadKit
theorem VArr.ofArv {Z : State} {h : Heap} {a : Addr} {k : ClassId} {z : Int32} {vs : List Value} (A : Arv Z h a k .byte z vs (.int 0)) (hl : z.toNatClampNeg = vs.length) : VArr Z h a .byte vs := by
  have hz : ¬ z < 0 := by obtain ⟨c, -, -, -, q, -⟩ := A; exact q
  have q := back32 hz
  rw [hl] at q
  exact ⟨q.2, k, by rw [q.1]; exact A⟩
end Jvm.OwnKit
namespace Jvm.OwnKit
open Sem ClassFile Op Lib Jvm.Stand Jvm.Free Jvm.LawKit Jvm.RoadKit
section Change
variable {Z : State} {n0 : Nat} {h0 h h' : Heap} {ws ws' : List Addr} {L L' : List Loc} {a b : Addr} {sl : Nat} {v : Value}
/-- what a walk has changed since h0: cells at ws, and new ones; no place below n0 -/
def Chg (n0 : Nat) (h0 h : Heap) (ws : List Addr) (L : List Loc) : Prop := n0 ≤ h0.size ∧ Keep h0 h ws ∧ Fr n0 L
theorem Chg.refl (q : n0 ≤ h0.size) : Chg n0 h0 h0 ws [] := ⟨q, Keep.refl _ _, Fr.nil _⟩
theorem Chg.keep (C : Chg n0 h0 h ws L) : Keep h0 h ws := C.2.1
theorem Chg.fr (C : Chg n0 h0 h ws L) : Fr n0 L := C.2.2
theorem Chg.size (C : Chg n0 h0 h ws L) : n0 ≤ h.size := Nat.le_trans C.1 C.2.1.1
theorem Chg.grow (C : Chg n0 h0 h ws L) : h0.size ≤ h.size := C.2.1.1
theorem Chg.at (C : Chg n0 h0 h ws L) (q : a = h.size) : h0.size ≤ a := q ▸ C.grow
theorem Chg.ge (C : Chg n0 h0 h ws L) (q : h0.size ≤ a) : n0 ≤ a := Nat.le_trans C.1 q
theorem Chg.ext (C : Chg n0 h0 h ws L) (E : Ext h h') : Chg n0 h0 h' ws L := ⟨C.1, C.2.1.ext E, C.2.2⟩
theorem Chg.wr (C : Chg n0 h0 h ws L) (W : Wr h h' a sl v) (q : a ∈ ws ∨ h0.size ≤ a) (g : n0 ≤ a) : Chg n0 h0 h' ws (L ++ [⟨a, sl⟩]) := ⟨C.1, C.2.1.wr W q, C.2.2.app fun y hy => by cases List.mem_singleton.mp hy; exact g⟩
theorem Chg.wrN (C : Chg n0 h0 h ws L) (W : Wr h h' a sl v) (q : a ∈ ws ∨ h0.size ≤ a) (N : Fr n0 L') : Chg n0 h0 h' ws (L ++ L') := ⟨C.1, C.2.1.wr W q, C.2.2.app N⟩
theorem Chg.call (C : Chg n0 h0 h ws L) (C' : Chg n0 h h' ws' L') (q : ∀ x ∈ ws', x ∈ ws ∨ h0.size ≤ x) : Chg n0 h0 h' ws (L ++ L') := ⟨C.1, C.2.1.trans C'.2.1 q, C.2.2.app C'.2.2⟩
theorem Chg.cpy (C : Chg n0 h0 h ws L) (K : Keep h h' [b]) (N : Fr n0 L') (q : b ∈ ws ∨ h0.size ≤ b) : Chg n0 h0 h' ws L' := ⟨C.1, C.2.1.trans K (allS q all0), N⟩
theorem Chg.pure (C : Chg n0 h0 h ws L) (N : Fr n0 L') (e : h' = h) : Chg n0 h0 h' ws (L ++ L') := by subst e; exact ⟨C.1, C.2.1, C.2.2.app N⟩
theorem Chg.sub (C : Chg n0 h0 h ws L) (q : ∀ x ∈ ws, x ∈ ws') : Chg n0 h0 h ws' L := ⟨C.1, (Keep.refl h0 ws').trans C.2.1 (fun x hx => Or.inl (q x hx)), C.2.2⟩
theorem lt_ne {F : Nat} (q : b = F) (r : a < F) : a ≠ b := Nat.ne_of_lt (q ▸ r)
theorem Chg.base (C : Chg n0 h0 h ws L) : Chg n0 h h ws' L := ⟨C.size, Keep.refl _ _, C.fr⟩
/-- no class's statics lie at x -/
def NS (h : Heap) (x : Addr) : Prop := ∀ cl : Cell, h[x]? = some cl → cl.vm.isStatics = false
theorem own_exaNS {K : String} (E : Exa Z h a K) : NS h a := fun cl q => by obtain ⟨c, k, h1, -, -, h4, -⟩ := E; cases h1.symm.trans q; exact h4
theorem own_ns0 : ∀ x ∈ ([] : List Addr), NS h x := fun _ q => by cases q
theorem own_nsS (q : NS h a) (r : ∀ x ∈ ws, NS h x) : ∀ x ∈ a :: ws, NS h x := fun x hx => by
  rcases List.mem_cons.mp hx with rfl | q'
  · exact q
  · exact r x q'
theorem staKeep {K n d : String} (S : Sta Z h K n d v) (k : Keep h h' ws) (q : ∀ x ∈ ws, NS h x) : Sta Z h' K n d v := by
  obtain ⟨cf, i, kk, f, st, cell, h1, h2, h3, h4, h5, h6, h7⟩ := S
  exact ⟨cf, i, kk, f, st, cell, h1, h2, h3, h4, k.2.1 _ _ h5 (fun hm => by have := q _ hm _ h5; rw [h6] at this; cases this), h6, h7⟩
end Change
end Jvm.OwnKit
namespace Jvm.Pilot.@@N@@
open Jvm Jvm.ClassFile Sem Op Lib Jvm.Free Jvm.Stand Jvm.LawKit Jvm.RoadKit Bundle Jvm.OwnKit Jvm.Pilot.@@N@@.Jvm.D
theorem d1_0 : decode prog_30_method_1_code 0 = .ok (.aload_n 0, 1) := by decide +kernel
theorem d1_1 : decode prog_30_method_1_code 1 = .ok (.invokespecial 1, 3) := by decide +kernel
theorem d1_4 : decode prog_30_method_1_code 4 = .ok (.aload_n 0, 1) := by decide +kernel
theorem d1_5 : decode prog_30_method_1_code 5 = .ok (.iconst (-1), 1) := by decide +kernel
theorem d1_6 : decode prog_30_method_1_code 6 = .ok (.putfield 7, 3) := by decide +kernel
theorem d1_9 : decode prog_30_method_1_code 9 = .ok (.aload_n 0, 1) := by decide +kernel
theorem d1_10 : decode prog_30_method_1_code 10 = .ok (.iload_n 1, 1) := by decide +kernel
theorem d1_11 : decode prog_30_method_1_code 11 = .ok (.putfield 13, 3) := by decide +kernel
theorem d1_14 : decode prog_30_method_1_code 14 = .ok (.aload_n 0, 1) := by decide +kernel
theorem d1_15 : decode prog_30_method_1_code 15 = .ok (.iload_n 2, 1) := by decide +kernel
theorem d1_16 : decode prog_30_method_1_code 16 = .ok (.putfield 16, 3) := by decide +kernel
theorem d1_19 : decode prog_30_method_1_code 19 = .ok (.aload_n 0, 1) := by decide +kernel
theorem d1_20 : decode prog_30_method_1_code 20 = .ok (.iload_n 3, 1) := by decide +kernel
theorem d1_21 : decode prog_30_method_1_code 21 = .ok (.putfield 19, 3) := by decide +kernel
theorem d1_24 : decode prog_30_method_1_code 24 = .ok (.aload_n 0, 1) := by decide +kernel
theorem d1_25 : decode prog_30_method_1_code 25 = .ok (.iload 4, 2) := by decide +kernel
theorem d1_27 : decode prog_30_method_1_code 27 = .ok (.putfield 22, 3) := by decide +kernel
theorem d1_30 : decode prog_30_method_1_code 30 = .ok (.aload_n 0, 1) := by decide +kernel
theorem d1_31 : decode prog_30_method_1_code 31 = .ok (.iload 5, 2) := by decide +kernel
theorem d1_33 : decode prog_30_method_1_code 33 = .ok (.putfield 25, 3) := by decide +kernel
theorem d1_36 : decode prog_30_method_1_code 36 = .ok (.return_, 1) := by decide +kernel
theorem d2_0 : decode prog_11_method_1_code 0 = .ok (.aload_n 0, 1) := by decide +kernel
theorem d2_1 : decode prog_11_method_1_code 1 = .ok (.invokespecial 3, 3) := by decide +kernel
theorem d2_4 : decode prog_11_method_1_code 4 = .ok (.aload_n 0, 1) := by decide +kernel
theorem d2_5 : decode prog_11_method_1_code 5 = .ok (.getstatic 9, 3) := by decide +kernel
theorem d2_8 : decode prog_11_method_1_code 8 = .ok (.putfield 15, 3) := by decide +kernel
theorem d2_11 : decode prog_11_method_1_code 11 = .ok (.return_, 1) := by decide +kernel
theorem d4_0 : decode prog_30_method_3_code 0 = .ok (.aload_n 0, 1) := by decide +kernel
theorem d4_1 : decode prog_30_method_3_code 1 = .ok (.getfield 25, 3) := by decide +kernel
theorem d4_4 : decode prog_30_method_3_code 4 = .ok (.ifCond .ne 16, 3) := by decide +kernel
theorem d4_7 : decode prog_30_method_3_code 7 = .ok (.aload_n 0, 1) := by decide +kernel
theorem d4_8 : decode prog_30_method_3_code 8 = .ok (.getfield 22, 3) := by decide +kernel
theorem d4_11 : decode prog_30_method_3_code 11 = .ok (.ldc 33, 2) := by decide +kernel
theorem d4_13 : decode prog_30_method_3_code 13 = .ok (.if_icmp .ne 7, 3) := by decide +kernel
theorem d4_16 : decode prog_30_method_3_code 16 = .ok (.iconst 1, 1) := by decide +kernel
theorem d4_17 : decode prog_30_method_3_code 17 = .ok (.goto 4, 3) := by decide +kernel
theorem d4_20 : decode prog_30_method_3_code 20 = .ok (.iconst 0, 1) := by decide +kernel
theorem d4_21 : decode prog_30_method_3_code 21 = .ok (.ireturn, 1) := by decide +kernel
theorem pd_0 : parseMethodDescriptor "()V" = some ⟨[], none⟩ := by decide +kernel
theorem pd_1 : parseMethodDescriptor "(IIIIZ)V" = some ⟨[.int, .int, .int, .int, .boolean], none⟩ := by decide +kernel
theorem pd_2 : parseMethodDescriptor "()Z" = some ⟨[], some .boolean⟩ := by decide +kernel

theorem own_b2 {g e : Int32} (h1 : g = 0 ∨ g = 1) (h2 : e = 0 ∨ e = 1) (q : g = 1 ↔ e = 1) : g = e := by
  rcases h1 with rfl | rfl <;> rcases h2 with rfl | rfl
  · rfl
  · exact absurd (q.mpr rfl) (by decide)
  · exact absurd (q.mp rfl) (by decide)
  · rfl

theorem ef_rm2 (m : MethodId) (x0 : Addr) : entryFrame m #[(.ref x0)] 1 = mkF m 0 #[.val (.ref x0)] [] := by first | (simp [entryFrame, mkF, argsToLocals, Value.category]; done) | rfl
set_option maxRecDepth 65536 in
set_option maxHeartbeats 40000000 in
theorem rm2 (l : Launch) (Z : State) (a0 : Array Value) (hw : ∀ d ∈ tables_1, d.before a0 Z = true) (a1 acc : Addr) (n0 : Nat) (h0 : Heap) (Ex : Exa Z h0 a1 "com/example/durable_coordinator/durablecoordinator/coordinator/RegexNode$Loop") (F1 : Fld Z h0 a1 "com/example/durable_coordinator/durablecoordinator/coordinator/RegexNode" "next" "Lcom/example/durable_coordinator/durablecoordinator/coordinator/RegexNode;" .null) (SA : Sta Z h0 "com/example/durable_coordinator/durablecoordinator/coordinator/RegexNode" "ACCEPT" "Lcom/example/durable_coordinator/durablecoordinator/coordinator/RegexNode;" (.ref acc)) (g_a1 : n0 ≤ a1) :
    Met l Z (⟨"com/example/durable_coordinator/durablecoordinator/coordinator/RegexNode", "<init>", "()V"⟩ : MethodName) prog_11_method_1_code 1 none ({ frames := 1, cells := 0, slots := 0, locals := 12 } : Room) #[(.ref a1)] h0 (fun v h L => v = none ∧ Wr h0 h a1 (Jvm.RoadKit.slotOf Z "com/example/durable_coordinator/durablecoordinator/coordinator/RegexNode" "next" "Lcom/example/durable_coordinator/durablecoordinator/coordinator/RegexNode;") (.ref acc) ∧ Fr n0 L) := by
  refine Met.intro (plainFor_of_name (by first | (simp [plainName, overriddenIn]; done) | decide +kernel)) ?_
  intro p e s m below meth c T0 hx hby hml hown hnm hret hlk hZ X0 e0
  refine Go.cast (ef_rm2 m a1) ?_
  refine Go.back (f' := (mkF m 1 #[.val (.ref a1)] [(.ref a1)])) (fun _ k => XS.aloadN X0.here hx rfl (hb hby d2_0) rfl rfl k) ?_
  obtain ⟨T1, X1, e1, st1⟩ := initO X0 hx hZ hown (hw _ (List.mem_of_getElem? (i := 11) rfl)) (hw _ (List.mem_of_getElem? (i := 12) rfl)) (hw _ (List.mem_of_getElem? (i := 13) rfl)) e0 (g := (mkF m 1 #[.val (.ref a1)] [(.ref a1)])) rfl (by rw [hml]; rfl) rfl (hb hby d2_1) (by decide) (W := 0) (by show 2 * 0 + _ ≤ _; exact Nat.le_of_eq rfl) (by decide)
  refine Go.back (f' := (mkF m 4 #[.val (.ref a1)] [])) st1 ?_
  refine Go.back (f' := (mkF m 5 #[.val (.ref a1)] [(.ref a1)])) (fun _ k => XS.aloadN X1.here hx rfl (hb hby d2_4) rfl rfl k) ?_
  obtain ⟨T2, X2, e2, st2⟩ := getS2 X1 hx hZ hown (host := "") (Or.inl (hw _ (List.mem_of_getElem? (i := 14) rfl))) Via.refl e1 SA (g := (mkF m 5 #[.val (.ref a1)] [(.ref a1)])) rfl (hb hby d2_5)
  refine Go.back (f' := (mkF m 8 #[.val (.ref a1)] [(.ref acc), (.ref a1)])) st2 ?_
  obtain ⟨T3, h3, X3, e3, W3, st3⟩ := putF X2 hx hZ hown (host := "") (Or.inl (hw _ (List.mem_of_getElem? (i := 16) rfl))) Via.refl e2 F1 Ex (Or.inl (hw _ (List.mem_of_getElem? (i := 17) rfl))) (hw _ (List.mem_of_getElem? (i := 1) rfl)) (ty := (.object "com/example/durable_coordinator/durablecoordinator/coordinator/RegexNode")) (by decide) rfl rfl (g := (mkF m 8 #[.val (.ref a1)] [(.ref acc), (.ref a1)])) rfl rfl (hb hby d2_8)
  refine Go.back (f' := (mkF m 11 #[.val (.ref a1)] [])) st3 ?_
  have Ex_4 := Ex.wr W3
  have Fl_5 := F1.same W3
  have St_6 := SA.wr W3
  exact Go.ret0 X3 hx hret hlk (hb hby d2_11) (by (try rw [e3]); exact ⟨rfl, W3, Fr.snoc X3 (Fr.nil _) g_a1⟩) (Nat.zero_le _) (Nat.zero_le _)
theorem ef_rm1 (m : MethodId) (x0 : Addr) (x1 : Int32) (x2 : Int32) (x3 : Int32) (x4 : Int32) (x5 : Int32) : entryFrame m #[(.ref x0), (.int x1), (.int x2), (.int x3), (.int x4), (.int x5)] 6 = mkF m 0 #[.val (.ref x0), .val (.int x1), .val (.int x2), .val (.int x3), .val (.int x4), .val (.int x5)] [] := by first | (simp [entryFrame, mkF, argsToLocals, Value.category]; done) | rfl
set_option maxRecDepth 65536 in
set_option maxHeartbeats 40000000 in
theorem rm1 (l : Launch) (Z : State) (a0 : Array Value) (hw : ∀ d ∈ tables_1, d.before a0 Z = true) (a1 acc : Addr) (p1 p2 p3 p4 p5 : Int32) (n0 : Nat) (h0 : Heap) (Z0 : n0 ≤ h0.size) (Ex : Exa Z h0 a1 "com/example/durable_coordinator/durablecoordinator/coordinator/RegexNode$Loop") (Fnx : Fld Z h0 a1 "com/example/durable_coordinator/durablecoordinator/coordinator/RegexNode" "next" "Lcom/example/durable_coordinator/durablecoordinator/coordinator/RegexNode;" .null) (SA : Sta Z h0 "com/example/durable_coordinator/durablecoordinator/coordinator/RegexNode" "ACCEPT" "Lcom/example/durable_coordinator/durablecoordinator/coordinator/RegexNode;" (.ref acc)) (g_a1 : n0 ≤ a1) (Fmemo : Fld Z h0 a1 "com/example/durable_coordinator/durablecoordinator/coordinator/RegexNode$Loop" "memo" "I" (.int (0 : Int32))) (FcountLocal : Fld Z h0 a1 "com/example/durable_coordinator/durablecoordinator/coordinator/RegexNode$Loop" "countLocal" "I" (.int (0 : Int32))) (FbeginLocal : Fld Z h0 a1 "com/example/durable_coordinator/durablecoordinator/coordinator/RegexNode$Loop" "beginLocal" "I" (.int (0 : Int32))) (Fmin : Fld Z h0 a1 "com/example/durable_coordinator/durablecoordinator/coordinator/RegexNode$Loop" "min" "I" (.int (0 : Int32))) (Fmax : Fld Z h0 a1 "com/example/durable_coordinator/durablecoordinator/coordinator/RegexNode$Loop" "max" "I" (.int (0 : Int32))) (Flazy : Fld Z h0 a1 "com/example/durable_coordinator/durablecoordinator/coordinator/RegexNode$Loop" "lazy" "Z" (.int (0 : Int32))) :
    Met l Z (⟨"com/example/durable_coordinator/durablecoordinator/coordinator/RegexNode$Loop", "<init>", "(IIIIZ)V"⟩ : MethodName) prog_30_method_1_code 6 none ({ frames := 2, cells := 0, slots := 0, locals := 24 } : Room) #[(.ref a1), (.int p1), (.int p2), (.int p3), (.int p4), (.int p5)] h0 (fun v h L => v = none ∧ Chg n0 h0 h [a1] L ∧ Exa Z h a1 "com/example/durable_coordinator/durablecoordinator/coordinator/RegexNode$Loop" ∧ Fld Z h a1 "com/example/durable_coordinator/durablecoordinator/coordinator/RegexNode$Loop" "max" "I" (.int p4) ∧ Fld Z h a1 "com/example/durable_coordinator/durablecoordinator/coordinator/RegexNode$Loop" "lazy" "Z" (.int (nar .boolean p5))) := by
  refine Met.intro (plainFor_of_name (by first | (simp [plainName, overriddenIn]; done) | decide +kernel)) ?_
  intro p e s m below meth c T0 hx hby hml hown hnm hret hlk hZ X0 e0
  refine Go.cast (ef_rm1 m a1 p1 p2 p3 p4 p5) ?_
  have K0 : Chg n0 h0 h0 [a1] [] := Chg.refl Z0
  refine Go.back (f' := (mkF m 1 #[.val (.ref a1), .val (.int p1), .val (.int p2), .val (.int p3), .val (.int p4), .val (.int p5)] [(.ref a1)])) (fun _ k => XS.aloadN X0.here hx rfl (hb hby d1_0) rfl rfl k) ?_
  refine Go.callI X0 hx hZ rfl hown (hw _ (List.mem_of_getElem? (i := 6) rfl)) (hw _ (List.mem_of_getElem? (i := 7) rfl)) (hw _ (List.mem_of_getElem? (i := 9) rfl)) (hw _ (List.mem_of_getElem? (i := 10) rfl)) (by decide) e0 (a := a1) (argsL := []) (rest := []) (rm2 l Z a0 hw a1 acc n0 h0 Ex Fnx SA g_a1) (lenOf pd_0 rfl) rfl (by rw [hml]; rfl) (W := 0) (Nat.le_of_eq rfl) (hb hby d1_1) (by decide) (by decide) (by decide) (by decide) ?_
  intro v7 T7 L7 X7 hQ7
  obtain ⟨rfl, W7, N7⟩ := hQ7
  have Ex_8 := Ex.wr W7
  have Fl_9 := Fnx.same W7
  have Fl_10 := Fmemo.other W7 (Or.inr (slot_ne (Or.inl (hw _ (List.mem_of_getElem? (i := 19) rfl))) (Or.inl (hw _ (List.mem_of_getElem? (i := 17) rfl))) (by decide) (t := .int) (t' := (.object "com/example/durable_coordinator/durablecoordinator/coordinator/RegexNode")) (by decide) (by decide)))
  have Fl_11 := FcountLocal.other W7 (Or.inr (slot_ne (Or.inr (hw _ (List.mem_of_getElem? (i := 21) rfl))) (Or.inl (hw _ (List.mem_of_getElem? (i := 17) rfl))) (by decide) (t := .int) (t' := (.object "com/example/durable_coordinator/durablecoordinator/coordinator/RegexNode")) (by decide) (by decide)))
  have Fl_12 := FbeginLocal.other W7 (Or.inr (slot_ne (Or.inr (hw _ (List.mem_of_getElem? (i := 23) rfl))) (Or.inl (hw _ (List.mem_of_getElem? (i := 17) rfl))) (by decide) (t := .int) (t' := (.object "com/example/durable_coordinator/durablecoordinator/coordinator/RegexNode")) (by decide) (by decide)))
  have Fl_13 := Fmin.other W7 (Or.inr (slot_ne (Or.inr (hw _ (List.mem_of_getElem? (i := 25) rfl))) (Or.inl (hw _ (List.mem_of_getElem? (i := 17) rfl))) (by decide) (t := .int) (t' := (.object "com/example/durable_coordinator/durablecoordinator/coordinator/RegexNode")) (by decide) (by decide)))
  have Fl_14 := Fmax.other W7 (Or.inr (slot_ne (Or.inr (hw _ (List.mem_of_getElem? (i := 27) rfl))) (Or.inl (hw _ (List.mem_of_getElem? (i := 17) rfl))) (by decide) (t := .int) (t' := (.object "com/example/durable_coordinator/durablecoordinator/coordinator/RegexNode")) (by decide) (by decide)))
  have Fl_15 := Flazy.other W7 (Or.inr (slot_ne (Or.inr (hw _ (List.mem_of_getElem? (i := 29) rfl))) (Or.inl (hw _ (List.mem_of_getElem? (i := 17) rfl))) (by decide) (t := .boolean) (t' := (.object "com/example/durable_coordinator/durablecoordinator/coordinator/RegexNode")) (by decide) (by decide)))
  have K_16 := K0.wrN W7 (Or.inl (List.mem_of_getElem? (i := 0) rfl)) N7
  show GoG _ _ _ _ _ (mkF m 4 #[.val (.ref a1), .val (.int p1), .val (.int p2), .val (.int p3), .val (.int p4), .val (.int p5)] [])
  refine Go.back (f' := (mkF m 5 #[.val (.ref a1), .val (.int p1), .val (.int p2), .val (.int p3), .val (.int p4), .val (.int p5)] [(.ref a1)])) (fun _ k => XS.aloadN X7.here hx rfl (hb hby d1_4) rfl rfl k) ?_
  refine Go.back (f' := (mkF m 6 #[.val (.ref a1), .val (.int p1), .val (.int p2), .val (.int p3), .val (.int p4), .val (.int p5)] [(.int (-1 : Int32)), (.ref a1)])) (fun _ k => XS.iconst X7.here hx rfl (hb hby d1_5) k) ?_
  obtain ⟨T17, h17, X17, e17, W17, st17⟩ := putF X7 hx hZ hown (host := "") (Or.inl (hw _ (List.mem_of_getElem? (i := 18) rfl))) Via.refl rfl Fl_10 Ex_8 (Or.inl (hw _ (List.mem_of_getElem? (i := 19) rfl))) (hw _ (List.mem_of_getElem? (i := 1) rfl)) (ty := .int) (by decide) rfl rfl (g := (mkF m 6 #[.val (.ref a1), .val (.int p1), .val (.int p2), .val (.int p3), .val (.int p4), .val (.int p5)] [(.int (-1 : Int32)), (.ref a1)])) rfl rfl (hb hby d1_6)
  refine Go.back (f' := (mkF m 9 #[.val (.ref a1), .val (.int p1), .val (.int p2), .val (.int p3), .val (.int p4), .val (.int p5)] [])) st17 ?_
  have Ex_18 := Ex_8.wr W17
  have Fl_19 := Fl_10.same W17
  have Fl_20 := Fl_11.other W17 (Or.inr (slot_ne (Or.inr (hw _ (List.mem_of_getElem? (i := 21) rfl))) (Or.inl (hw _ (List.mem_of_getElem? (i := 19) rfl))) (by decide) (t := .int) (t' := .int) (by decide) (by decide)))
  have Fl_21 := Fl_12.other W17 (Or.inr (slot_ne (Or.inr (hw _ (List.mem_of_getElem? (i := 23) rfl))) (Or.inl (hw _ (List.mem_of_getElem? (i := 19) rfl))) (by decide) (t := .int) (t' := .int) (by decide) (by decide)))
  have Fl_22 := Fl_13.other W17 (Or.inr (slot_ne (Or.inr (hw _ (List.mem_of_getElem? (i := 25) rfl))) (Or.inl (hw _ (List.mem_of_getElem? (i := 19) rfl))) (by decide) (t := .int) (t' := .int) (by decide) (by decide)))
  have Fl_23 := Fl_14.other W17 (Or.inr (slot_ne (Or.inr (hw _ (List.mem_of_getElem? (i := 27) rfl))) (Or.inl (hw _ (List.mem_of_getElem? (i := 19) rfl))) (by decide) (t := .int) (t' := .int) (by decide) (by decide)))
  have Fl_24 := Fl_15.other W17 (Or.inr (slot_ne (Or.inr (hw _ (List.mem_of_getElem? (i := 29) rfl))) (Or.inl (hw _ (List.mem_of_getElem? (i := 19) rfl))) (by decide) (t := .boolean) (t' := .int) (by decide) (by decide)))
  have K_25 := K_16.wr W17 (Or.inl (List.mem_of_getElem? (i := 0) rfl)) g_a1
  refine Go.back (f' := (mkF m 10 #[.val (.ref a1), .val (.int p1), .val (.int p2), .val (.int p3), .val (.int p4), .val (.int p5)] [(.ref a1)])) (fun _ k => XS.aloadN X17.here hx rfl (hb hby d1_9) rfl rfl k) ?_
  refine Go.back (f' := (mkF m 11 #[.val (.ref a1), .val (.int p1), .val (.int p2), .val (.int p3), .val (.int p4), .val (.int p5)] [(.int p1), (.ref a1)])) (fun _ k => XS.iloadN X17.here hx rfl (hb hby d1_10) rfl k) ?_
  obtain ⟨T26, h26, X26, e26, W26, st26⟩ := putF X17 hx hZ hown (host := "") (Or.inl (hw _ (List.mem_of_getElem? (i := 20) rfl))) Via.refl e17 Fl_20 Ex_18 (Or.inr ⟨(hw _ (List.mem_of_getElem? (i := 21) rfl)), rfl, hnm⟩) (hw _ (List.mem_of_getElem? (i := 1) rfl)) (ty := .int) (by decide) rfl rfl (g := (mkF m 11 #[.val (.ref a1), .val (.int p1), .val (.int p2), .val (.int p3), .val (.int p4), .val (.int p5)] [(.int p1), (.ref a1)])) rfl rfl (hb hby d1_11)
  refine Go.back (f' := (mkF m 14 #[.val (.ref a1), .val (.int p1), .val (.int p2), .val (.int p3), .val (.int p4), .val (.int p5)] [])) st26 ?_
  have Ex_27 := Ex_18.wr W26
  have Fl_28 := Fl_19.other W26 (Or.inr (slot_ne (Or.inl (hw _ (List.mem_of_getElem? (i := 19) rfl))) (Or.inr (hw _ (List.mem_of_getElem? (i := 21) rfl))) (by decide) (t := .int) (t' := .int) (by decide) (by decide)))
  have Fl_29 := Fl_20.same W26
  have Fl_30 := Fl_21.other W26 (Or.inr (slot_ne (Or.inr (hw _ (List.mem_of_getElem? (i := 23) rfl))) (Or.inr (hw _ (List.mem_of_getElem? (i := 21) rfl))) (by decide) (t := .int) (t' := .int) (by decide) (by decide)))
  have Fl_31 := Fl_22.other W26 (Or.inr (slot_ne (Or.inr (hw _ (List.mem_of_getElem? (i := 25) rfl))) (Or.inr (hw _ (List.mem_of_getElem? (i := 21) rfl))) (by decide) (t := .int) (t' := .int) (by decide) (by decide)))
  have Fl_32 := Fl_23.other W26 (Or.inr (slot_ne (Or.inr (hw _ (List.mem_of_getElem? (i := 27) rfl))) (Or.inr (hw _ (List.mem_of_getElem? (i := 21) rfl))) (by decide) (t := .int) (t' := .int) (by decide) (by decide)))
  have Fl_33 := Fl_24.other W26 (Or.inr (slot_ne (Or.inr (hw _ (List.mem_of_getElem? (i := 29) rfl))) (Or.inr (hw _ (List.mem_of_getElem? (i := 21) rfl))) (by decide) (t := .boolean) (t' := .int) (by decide) (by decide)))
  have K_34 := K_25.wr W26 (Or.inl (List.mem_of_getElem? (i := 0) rfl)) g_a1
  refine Go.back (f' := (mkF m 15 #[.val (.ref a1), .val (.int p1), .val (.int p2), .val (.int p3), .val (.int p4), .val (.int p5)] [(.ref a1)])) (fun _ k => XS.aloadN X26.here hx rfl (hb hby d1_14) rfl rfl k) ?_
  refine Go.back (f' := (mkF m 16 #[.val (.ref a1), .val (.int p1), .val (.int p2), .val (.int p3), .val (.int p4), .val (.int p5)] [(.int p2), (.ref a1)])) (fun _ k => XS.iloadN X26.here hx rfl (hb hby d1_15) rfl k) ?_
  obtain ⟨T35, h35, X35, e35, W35, st35⟩ := putF X26 hx hZ hown (host := "") (Or.inl (hw _ (List.mem_of_getElem? (i := 22) rfl))) Via.refl e26 Fl_30 Ex_27 (Or.inr ⟨(hw _ (List.mem_of_getElem? (i := 23) rfl)), rfl, hnm⟩) (hw _ (List.mem_of_getElem? (i := 1) rfl)) (ty := .int) (by decide) rfl rfl (g := (mkF m 16 #[.val (.ref a1), .val (.int p1), .val (.int p2), .val (.int p3), .val (.int p4), .val (.int p5)] [(.int p2), (.ref a1)])) rfl rfl (hb hby d1_16)
  refine Go.back (f' := (mkF m 19 #[.val (.ref a1), .val (.int p1), .val (.int p2), .val (.int p3), .val (.int p4), .val (.int p5)] [])) st35 ?_
  have Ex_36 := Ex_27.wr W35
  have Fl_37 := Fl_28.other W35 (Or.inr (slot_ne (Or.inl (hw _ (List.mem_of_getElem? (i := 19) rfl))) (Or.inr (hw _ (List.mem_of_getElem? (i := 23) rfl))) (by decide) (t := .int) (t' := .int) (by decide) (by decide)))
  have Fl_38 := Fl_29.other W35 (Or.inr (slot_ne (Or.inr (hw _ (List.mem_of_getElem? (i := 21) rfl))) (Or.inr (hw _ (List.mem_of_getElem? (i := 23) rfl))) (by decide) (t := .int) (t' := .int) (by decide) (by decide)))
  have Fl_39 := Fl_30.same W35
  have Fl_40 := Fl_31.other W35 (Or.inr (slot_ne (Or.inr (hw _ (List.mem_of_getElem? (i := 25) rfl))) (Or.inr (hw _ (List.mem_of_getElem? (i := 23) rfl))) (by decide) (t := .int) (t' := .int) (by decide) (by decide)))
  have Fl_41 := Fl_32.other W35 (Or.inr (slot_ne (Or.inr (hw _ (List.mem_of_getElem? (i := 27) rfl))) (Or.inr (hw _ (List.mem_of_getElem? (i := 23) rfl))) (by decide) (t := .int) (t' := .int) (by decide) (by decide)))
  have Fl_42 := Fl_33.other W35 (Or.inr (slot_ne (Or.inr (hw _ (List.mem_of_getElem? (i := 29) rfl))) (Or.inr (hw _ (List.mem_of_getElem? (i := 23) rfl))) (by decide) (t := .boolean) (t' := .int) (by decide) (by decide)))
  have K_43 := K_34.wr W35 (Or.inl (List.mem_of_getElem? (i := 0) rfl)) g_a1
  refine Go.back (f' := (mkF m 20 #[.val (.ref a1), .val (.int p1), .val (.int p2), .val (.int p3), .val (.int p4), .val (.int p5)] [(.ref a1)])) (fun _ k => XS.aloadN X35.here hx rfl (hb hby d1_19) rfl rfl k) ?_
  refine Go.back (f' := (mkF m 21 #[.val (.ref a1), .val (.int p1), .val (.int p2), .val (.int p3), .val (.int p4), .val (.int p5)] [(.int p3), (.ref a1)])) (fun _ k => XS.iloadN X35.here hx rfl (hb hby d1_20) rfl k) ?_
  obtain ⟨T44, h44, X44, e44, W44, st44⟩ := putF X35 hx hZ hown (host := "") (Or.inl (hw _ (List.mem_of_getElem? (i := 24) rfl))) Via.refl e35 Fl_40 Ex_36 (Or.inr ⟨(hw _ (List.mem_of_getElem? (i := 25) rfl)), rfl, hnm⟩) (hw _ (List.mem_of_getElem? (i := 1) rfl)) (ty := .int) (by decide) rfl rfl (g := (mkF m 21 #[.val (.ref a1), .val (.int p1), .val (.int p2), .val (.int p3), .val (.int p4), .val (.int p5)] [(.int p3), (.ref a1)])) rfl rfl (hb hby d1_21)
  refine Go.back (f' := (mkF m 24 #[.val (.ref a1), .val (.int p1), .val (.int p2), .val (.int p3), .val (.int p4), .val (.int p5)] [])) st44 ?_
  have Ex_45 := Ex_36.wr W44
  have Fl_46 := Fl_37.other W44 (Or.inr (slot_ne (Or.inl (hw _ (List.mem_of_getElem? (i := 19) rfl))) (Or.inr (hw _ (List.mem_of_getElem? (i := 25) rfl))) (by decide) (t := .int) (t' := .int) (by decide) (by decide)))
  have Fl_47 := Fl_38.other W44 (Or.inr (slot_ne (Or.inr (hw _ (List.mem_of_getElem? (i := 21) rfl))) (Or.inr (hw _ (List.mem_of_getElem? (i := 25) rfl))) (by decide) (t := .int) (t' := .int) (by decide) (by decide)))
  have Fl_48 := Fl_39.other W44 (Or.inr (slot_ne (Or.inr (hw _ (List.mem_of_getElem? (i := 23) rfl))) (Or.inr (hw _ (List.mem_of_getElem? (i := 25) rfl))) (by decide) (t := .int) (t' := .int) (by decide) (by decide)))
  have Fl_49 := Fl_40.same W44
  have Fl_50 := Fl_41.other W44 (Or.inr (slot_ne (Or.inr (hw _ (List.mem_of_getElem? (i := 27) rfl))) (Or.inr (hw _ (List.mem_of_getElem? (i := 25) rfl))) (by decide) (t := .int) (t' := .int) (by decide) (by decide)))
  have Fl_51 := Fl_42.other W44 (Or.inr (slot_ne (Or.inr (hw _ (List.mem_of_getElem? (i := 29) rfl))) (Or.inr (hw _ (List.mem_of_getElem? (i := 25) rfl))) (by decide) (t := .boolean) (t' := .int) (by decide) (by decide)))
  have K_52 := K_43.wr W44 (Or.inl (List.mem_of_getElem? (i := 0) rfl)) g_a1
  refine Go.back (f' := (mkF m 25 #[.val (.ref a1), .val (.int p1), .val (.int p2), .val (.int p3), .val (.int p4), .val (.int p5)] [(.ref a1)])) (fun _ k => XS.aloadN X44.here hx rfl (hb hby d1_24) rfl rfl k) ?_
  refine Go.back (f' := (mkF m 27 #[.val (.ref a1), .val (.int p1), .val (.int p2), .val (.int p3), .val (.int p4), .val (.int p5)] [(.int p4), (.ref a1)])) (fun _ k => XS.iload X44.here hx rfl (hb hby d1_25) rfl k) ?_
  obtain ⟨T53, h53, X53, e53, W53, st53⟩ := putF X44 hx hZ hown (host := "") (Or.inl (hw _ (List.mem_of_getElem? (i := 26) rfl))) Via.refl e44 Fl_50 Ex_45 (Or.inr ⟨(hw _ (List.mem_of_getElem? (i := 27) rfl)), rfl, hnm⟩) (hw _ (List.mem_of_getElem? (i := 1) rfl)) (ty := .int) (by decide) rfl rfl (g := (mkF m 27 #[.val (.ref a1), .val (.int p1), .val (.int p2), .val (.int p3), .val (.int p4), .val (.int p5)] [(.int p4), (.ref a1)])) rfl rfl (hb hby d1_27)
  refine Go.back (f' := (mkF m 30 #[.val (.ref a1), .val (.int p1), .val (.int p2), .val (.int p3), .val (.int p4), .val (.int p5)] [])) st53 ?_
  have Ex_54 := Ex_45.wr W53
  have Fl_55 := Fl_46.other W53 (Or.inr (slot_ne (Or.inl (hw _ (List.mem_of_getElem? (i := 19) rfl))) (Or.inr (hw _ (List.mem_of_getElem? (i := 27) rfl))) (by decide) (t := .int) (t' := .int) (by decide) (by decide)))
  have Fl_56 := Fl_47.other W53 (Or.inr (slot_ne (Or.inr (hw _ (List.mem_of_getElem? (i := 21) rfl))) (Or.inr (hw _ (List.mem_of_getElem? (i := 27) rfl))) (by decide) (t := .int) (t' := .int) (by decide) (by decide)))
  have Fl_57 := Fl_48.other W53 (Or.inr (slot_ne (Or.inr (hw _ (List.mem_of_getElem? (i := 23) rfl))) (Or.inr (hw _ (List.mem_of_getElem? (i := 27) rfl))) (by decide) (t := .int) (t' := .int) (by decide) (by decide)))
  have Fl_58 := Fl_49.other W53 (Or.inr (slot_ne (Or.inr (hw _ (List.mem_of_getElem? (i := 25) rfl))) (Or.inr (hw _ (List.mem_of_getElem? (i := 27) rfl))) (by decide) (t := .int) (t' := .int) (by decide) (by decide)))
  have Fl_59 := Fl_50.same W53
  have Fl_60 := Fl_51.other W53 (Or.inr (slot_ne (Or.inr (hw _ (List.mem_of_getElem? (i := 29) rfl))) (Or.inr (hw _ (List.mem_of_getElem? (i := 27) rfl))) (by decide) (t := .boolean) (t' := .int) (by decide) (by decide)))
  have K_61 := K_52.wr W53 (Or.inl (List.mem_of_getElem? (i := 0) rfl)) g_a1
  refine Go.back (f' := (mkF m 31 #[.val (.ref a1), .val (.int p1), .val (.int p2), .val (.int p3), .val (.int p4), .val (.int p5)] [(.ref a1)])) (fun _ k => XS.aloadN X53.here hx rfl (hb hby d1_30) rfl rfl k) ?_
  refine Go.back (f' := (mkF m 33 #[.val (.ref a1), .val (.int p1), .val (.int p2), .val (.int p3), .val (.int p4), .val (.int p5)] [(.int p5), (.ref a1)])) (fun _ k => XS.iload X53.here hx rfl (hb hby d1_31) rfl k) ?_
  obtain ⟨T62, h62, X62, e62, W62, st62⟩ := putFN X53 hx hZ hown (hw _ (List.mem_of_getElem? (i := 28) rfl)) Via.refl e53 Fl_60 Ex_54 (Or.inr ⟨(hw _ (List.mem_of_getElem? (i := 29) rfl)), rfl, hnm⟩) (hw _ (List.mem_of_getElem? (i := 1) rfl)) (ty := .boolean) (v' := (.int (nar .boolean p5))) (by decide) rfl (fits_nar_bool _) (g := (mkF m 33 #[.val (.ref a1), .val (.int p1), .val (.int p2), .val (.int p3), .val (.int p4), .val (.int p5)] [(.int p5), (.ref a1)])) rfl rfl (hb hby d1_33)
  refine Go.back (f' := (mkF m 36 #[.val (.ref a1), .val (.int p1), .val (.int p2), .val (.int p3), .val (.int p4), .val (.int p5)] [])) st62 ?_
  have Ex_63 := Ex_54.wr W62
  have Fl_64 := Fl_55.other W62 (Or.inr (slot_ne (Or.inl (hw _ (List.mem_of_getElem? (i := 19) rfl))) (Or.inr (hw _ (List.mem_of_getElem? (i := 29) rfl))) (by decide) (t := .int) (t' := .boolean) (by decide) (by decide)))
  have Fl_65 := Fl_56.other W62 (Or.inr (slot_ne (Or.inr (hw _ (List.mem_of_getElem? (i := 21) rfl))) (Or.inr (hw _ (List.mem_of_getElem? (i := 29) rfl))) (by decide) (t := .int) (t' := .boolean) (by decide) (by decide)))
  have Fl_66 := Fl_57.other W62 (Or.inr (slot_ne (Or.inr (hw _ (List.mem_of_getElem? (i := 23) rfl))) (Or.inr (hw _ (List.mem_of_getElem? (i := 29) rfl))) (by decide) (t := .int) (t' := .boolean) (by decide) (by decide)))
  have Fl_67 := Fl_58.other W62 (Or.inr (slot_ne (Or.inr (hw _ (List.mem_of_getElem? (i := 25) rfl))) (Or.inr (hw _ (List.mem_of_getElem? (i := 29) rfl))) (by decide) (t := .int) (t' := .boolean) (by decide) (by decide)))
  have Fl_68 := Fl_59.other W62 (Or.inr (slot_ne (Or.inr (hw _ (List.mem_of_getElem? (i := 27) rfl))) (Or.inr (hw _ (List.mem_of_getElem? (i := 29) rfl))) (by decide) (t := .int) (t' := .boolean) (by decide) (by decide)))
  have Fl_69 := Fl_60.same W62
  have K_70 := K_61.wr W62 (Or.inl (List.mem_of_getElem? (i := 0) rfl)) g_a1
  exact Go.ret0 X62 hx hret hlk (hb hby d1_36) (by (try rw [e62]); exact ⟨rfl, K_70, Ex_63, Fl_68, Fl_69⟩) (Nat.zero_le _) (Nat.zero_le _)
theorem ef_rm4 (m : MethodId) (x0 : Addr) : entryFrame m #[(.ref x0)] 1 = mkF m 0 #[.val (.ref x0)] [] := by first | (simp [entryFrame, mkF, argsToLocals, Value.category]; done) | rfl
set_option maxRecDepth 65536 in
set_option maxHeartbeats 40000000 in
theorem rm4 (l : Launch) (Z : State) (a0 : Array Value) (hw : ∀ d ∈ tables_1, d.before a0 Z = true) (a1 : Addr) (mx lz : Int32) (h0 : Heap) (F1 : Fld Z h0 a1 "com/example/durable_coordinator/durablecoordinator/coordinator/RegexNode$Loop" "max" "I" (.int mx)) (F2 : Fld Z h0 a1 "com/example/durable_coordinator/durablecoordinator/coordinator/RegexNode$Loop" "lazy" "Z" (.int lz)) :
    Met l Z (⟨"com/example/durable_coordinator/durablecoordinator/coordinator/RegexNode$Loop", "isGreedyWithoutBound", "()Z"⟩ : MethodName) prog_30_method_3_code 1 (some .boolean) ({ frames := 0, cells := 0, slots := 0, locals := 0 } : Room) #[(.ref a1)] h0 (fun v h L => ∃ g : Int32, v = some (.int g) ∧ (g = 0 ∨ g = 1) ∧ (g = 1 ↔ (lz = 0 ∧ mx = 2147483647)) ∧ L = [] ∧ h = h0) := by
  refine Met.intro (plainFor_of_name (by first | (simp [plainName, overriddenIn]; done) | decide +kernel)) ?_
  intro p e s m below meth c T0 hx hby hml hown hnm hret hlk hZ X0 e0
  refine Go.cast (ef_rm4 m a1) ?_
  refine Go.back (f' := (mkF m 1 #[.val (.ref a1)] [(.ref a1)])) (fun _ k => XS.aloadN X0.here hx rfl (hb hby d4_0) rfl rfl k) ?_
  obtain ⟨T71, X71, e71, st71⟩ := getF X0 hx hZ hown (host := "") (Or.inl (hw _ (List.mem_of_getElem? (i := 28) rfl))) Via.refl e0 F2 (g := (mkF m 1 #[.val (.ref a1)] [(.ref a1)])) rfl rfl (hb hby d4_1)
  refine Go.back (f' := (mkF m 4 #[.val (.ref a1)] [(.int lz)])) st71 ?_
  by_cases h1 : lz = 0
  · refine Go.back (f' := (mkF m 7 #[.val (.ref a1)] [])) (fun _ k => XS.ifNo X71.here hx rfl (hb hby d4_4) rfl ((if0 _ _).trans (teq h1).2) k) ?_
    refine Go.back (f' := (mkF m 8 #[.val (.ref a1)] [(.ref a1)])) (fun _ k => XS.aloadN X71.here hx rfl (hb hby d4_7) rfl rfl k) ?_
    obtain ⟨T72, X72, e72, st72⟩ := getF X71 hx hZ hown (host := "") (Or.inl (hw _ (List.mem_of_getElem? (i := 26) rfl))) Via.refl e71 F1 (g := (mkF m 8 #[.val (.ref a1)] [(.ref a1)])) rfl rfl (hb hby d4_8)
    refine Go.back (f' := (mkF m 11 #[.val (.ref a1)] [(.int mx)])) st72 ?_
    refine Go.back (f' := (mkF m 13 #[.val (.ref a1)] [(.int (2147483647 : Int32)), (.int mx)])) (fun _ k => X72.ldcInt hx hown (mvT hZ (hw _ (List.mem_of_getElem? (i := 36) rfl))) (g := (mkF m 11 #[.val (.ref a1)] [(.int mx)])) rfl (hb hby d4_11) _ k) ?_
    by_cases h2 : mx = (2147483647 : Int32)
    · refine Go.back (f' := (mkF m 16 #[.val (.ref a1)] [])) (fun _ k => XS.icmpNo X72.here hx rfl (hb hby d4_13) rfl (teq h2).2 k) ?_
      refine Go.back (f' := (mkF m 17 #[.val (.ref a1)] [(.int (1 : Int32))])) (fun _ k => XS.iconst X72.here hx rfl (hb hby d4_16) k) ?_
      refine Go.back (f' := (mkF m 21 #[.val (.ref a1)] [(.int (1 : Int32))])) (fun _ k => XS.goto X72.here hx rfl (pc0 := 17) (pc' := 21) rfl (hb hby d4_17) (by decide) (by decide) k) ?_
      exact Go.retN X72 hx (t := .boolean) hret (by simp) (w := (1 : Int32)) rfl hlk (hb hby d4_21) (by (try rw [e72]); exact ⟨1, rfl, Or.inr rfl, ⟨fun _ => ⟨h1, h2⟩, fun _ => rfl⟩, rfl, rfl⟩) (Nat.zero_le _) (Nat.zero_le _)
    · refine Go.back (f' := (mkF m 20 #[.val (.ref a1)] [])) (fun _ k => XS.icmpYes X72.here hx rfl (pc0 := 13) (pc' := 20) rfl (hb hby d4_13) rfl (feq h2).2 (by decide) (by decide) k) ?_
      refine Go.back (f' := (mkF m 21 #[.val (.ref a1)] [(.int (0 : Int32))])) (fun _ k => XS.iconst X72.here hx rfl (hb hby d4_20) k) ?_
      exact Go.retN X72 hx (t := .boolean) hret (by simp) (w := (0 : Int32)) rfl hlk (hb hby d4_21) (by (try rw [e72]); exact ⟨0, rfl, Or.inl rfl, ⟨fun q => absurd q (by decide), fun q => absurd q.2 h2⟩, rfl, rfl⟩) (Nat.zero_le _) (Nat.zero_le _)
  · refine Go.back (f' := (mkF m 20 #[.val (.ref a1)] [])) (fun _ k => XS.ifYes X71.here hx rfl (pc0 := 4) (pc' := 20) rfl (hb hby d4_4) rfl ((if0 _ _).trans (feq h1).2) (by decide) (by decide) k) ?_
    refine Go.back (f' := (mkF m 21 #[.val (.ref a1)] [(.int (0 : Int32))])) (fun _ k => XS.iconst X71.here hx rfl (hb hby d4_20) k) ?_
    exact Go.retN X71 hx (t := .boolean) hret (by simp) (w := (0 : Int32)) rfl hlk (hb hby d4_21) (by (try rw [e71]); exact ⟨0, rfl, Or.inl rfl, ⟨fun q => absurd q (by decide), fun q => absurd q.1 h1⟩, rfl, rfl⟩) (Nat.zero_le _) (Nat.zero_le _)
theorem ef_rm0 (m : MethodId) (x0 : Int32) (x1 : Int32) (x2 : Int32) (x3 : Int32) (x4 : Int32) : entryFrame m #[(.int x0), (.int x1), (.int x2), (.int x3), (.int x4)] maxLocals = mkF m 0 #[.val (.int x0), .val (.int x1), .val (.int x2), .val (.int x3), .val (.int x4), .unset, .unset, .unset, .unset, .unset] [] := by first | (simp [entryFrame, mkF, argsToLocals, Value.category, maxLocals]; done) | rfl
set_option maxRecDepth 65536 in
set_option maxHeartbeats 40000000 in
theorem rm0 (l : Launch) (Z : State) (a0 : Array Value) (hw : ∀ d ∈ tables_1, d.before a0 Z = true) (acc : Addr) (q0 q1 q2 q3 q4 : Int32) (h0 : Heap) (SA : Sta Z h0 "com/example/durable_coordinator/durablecoordinator/coordinator/RegexNode" "ACCEPT" "Lcom/example/durable_coordinator/durablecoordinator/coordinator/RegexNode;" (.ref acc)) :
    Met l Z x code maxLocals ret room_1 #[(.int q0), (.int q1), (.int q2), (.int q3), (.int q4)] h0 (fun v h L => v = some (.int 1) ∧ Fr h0.size L) := by
  refine Met.intro (plainFor_of_name (by first | (simp [plainName, overriddenIn]; done) | decide +kernel)) ?_
  intro p e s m below meth c T0 hx hby hml hown hnm hret hlk hZ X0 e0
  refine Go.cast (ef_rm0 m q0 q1 q2 q3 q4) ?_
  have hml : c.maxLocals = 10 := hml
  refine Go.back (f' := (mkF m 2 #[.val (.int q0), .val (.int q1), .val (.int q2), .val (.int q3), .val (.int q4), .unset, .unset, .unset, .unset, .unset] [(.int q4)])) (fun _ k => XS.iload X0.here hx rfl (hb hby at_0) rfl k) ?_
  refine Go.back (f' := (mkF m 3 #[.val (.int q0), .val (.int q1), .val (.int q2), .val (.int q3), .val (.int q4), .unset, .unset, .unset, .unset, .unset] [(.int (1 : Int32)), (.int q4)])) (fun _ k => XS.iconst X0.here hx rfl (hb hby at_2) k) ?_
  refine Go.back (f' := (mkF m 4 #[.val (.int q0), .val (.int q1), .val (.int q2), .val (.int q3), .val (.int q4), .unset, .unset, .unset, .unset, .unset] [(.int (q4 &&& (1 : Int32)))])) (fun _ k => XS.iand X0.here hx rfl (hb hby at_3) rfl k) ?_
  suffices jm73 : ∀ lz : Int32, (lz = 0 ∨ lz = 1) → Go p e below s (fun v h L => v = some (.int 1) ∧ Fr h0.size L) room_1.cells room_1.slots T0 (mkF m 12 #[.val (.int q0), .val (.int q1), .val (.int q2), .val (.int q3), .val (.int q4), .unset, .unset, .unset, .unset, .unset] [(.int lz)]) by
    by_cases hp_lz_0 : (q4 &&& (1 : Int32)) = 0
    · refine Go.back (f' := (mkF m 11 #[.val (.int q0), .val (.int q1), .val (.int q2), .val (.int q3), .val (.int q4), .unset, .unset, .unset, .unset, .unset] [])) (fun _ k => XS.ifYes X0.here hx rfl (pc0 := 4) (pc' := 11) rfl (hb hby at_4) rfl ((if0 _ _).trans (teq hp_lz_0).1) (by decide) (by decide) k) ?_
      refine Go.back (f' := (mkF m 12 #[.val (.int q0), .val (.int q1), .val (.int q2), .val (.int q3), .val (.int q4), .unset, .unset, .unset, .unset, .unset] [(.int (0 : Int32))])) (fun _ k => XS.iconst X0.here hx rfl (hb hby at_11) k) ?_
      exact jm73 (0 : Int32) (by simp)
    · refine Go.back (f' := (mkF m 7 #[.val (.int q0), .val (.int q1), .val (.int q2), .val (.int q3), .val (.int q4), .unset, .unset, .unset, .unset, .unset] [])) (fun _ k => XS.ifNo X0.here hx rfl (hb hby at_4) rfl ((if0 _ _).trans (feq hp_lz_0).1) k) ?_
      refine Go.back (f' := (mkF m 8 #[.val (.int q0), .val (.int q1), .val (.int q2), .val (.int q3), .val (.int q4), .unset, .unset, .unset, .unset, .unset] [(.int (1 : Int32))])) (fun _ k => XS.iconst X0.here hx rfl (hb hby at_7) k) ?_
      refine Go.back (f' := (mkF m 12 #[.val (.int q0), .val (.int q1), .val (.int q2), .val (.int q3), .val (.int q4), .unset, .unset, .unset, .unset, .unset] [(.int (1 : Int32))])) (fun _ k => XS.goto X0.here hx rfl (pc0 := 8) (pc' := 12) rfl (hb hby at_8) (by decide) (by decide) k) ?_
      exact jm73 (1 : Int32) (by simp)
  intro lz h_lz
  refine Go.back (f' := (mkF m 14 #[.val (.int q0), .val (.int q1), .val (.int q2), .val (.int q3), .val (.int q4), .val (.int lz), .unset, .unset, .unset, .unset] [])) (fun _ k => XS.istore X0.here hx rfl (hb hby at_12) rfl (l' := #[.val (.int q0), .val (.int q1), .val (.int q2), .val (.int q3), .val (.int q4), .val (.int lz), .unset, .unset, .unset, .unset]) rfl k) ?_
  refine Go.back (f' := (mkF m 15 #[.val (.int q0), .val (.int q1), .val (.int q2), .val (.int q3), .val (.int q4), .val (.int lz), .unset, .unset, .unset, .unset] [(.int q3)])) (fun _ k => XS.iloadN X0.here hx rfl (hb hby at_14) rfl k) ?_
  refine Go.back (f' := (mkF m 17 #[.val (.int q0), .val (.int q1), .val (.int q2), .val (.int q3), .val (.int q4), .val (.int lz), .val (.int q3), .unset, .unset, .unset] [])) (fun _ k => XS.istore X0.here hx rfl (hb hby at_15) rfl (l' := #[.val (.int q0), .val (.int q1), .val (.int q2), .val (.int q3), .val (.int q4), .val (.int lz), .val (.int q3), .unset, .unset, .unset]) rfl k) ?_
  refine Go.back (f' := (mkF m 19 #[.val (.int q0), .val (.int q1), .val (.int q2), .val (.int q3), .val (.int q4), .val (.int lz), .val (.int q3), .unset, .unset, .unset] [(.int q4)])) (fun _ k => XS.iload X0.here hx rfl (hb hby at_17) rfl k) ?_
  refine Go.back (f' := (mkF m 20 #[.val (.int q0), .val (.int q1), .val (.int q2), .val (.int q3), .val (.int q4), .val (.int lz), .val (.int q3), .unset, .unset, .unset] [(.int (1 : Int32)), (.int q4)])) (fun _ k => XS.iconst X0.here hx rfl (hb hby at_19) k) ?_
  refine Go.back (f' := (mkF m 21 #[.val (.int q0), .val (.int q1), .val (.int q2), .val (.int q3), .val (.int q4), .val (.int lz), .val (.int q3), .unset, .unset, .unset] [(.int ((q4.toUInt32 >>> ((1 : Int32) &&& 31).toUInt32).toInt32))])) (fun _ k => XS.iushr X0.here hx rfl (hb hby at_20) rfl k) ?_
  refine Go.back (f' := (mkF m 22 #[.val (.int q0), .val (.int q1), .val (.int q2), .val (.int q3), .val (.int q4), .val (.int lz), .val (.int q3), .unset, .unset, .unset] [(.int (3 : Int32)), (.int ((q4.toUInt32 >>> ((1 : Int32) &&& 31).toUInt32).toInt32))])) (fun _ k => XS.iconst X0.here hx rfl (hb hby at_21) k) ?_
  refine Go.back (f' := (mkF m 23 #[.val (.int q0), .val (.int q1), .val (.int q2), .val (.int q3), .val (.int q4), .val (.int lz), .val (.int q3), .unset, .unset, .unset] [(.int (((q4.toUInt32 >>> ((1 : Int32) &&& 31).toUInt32).toInt32) &&& (3 : Int32)))])) (fun _ k => XS.iand X0.here hx rfl (hb hby at_22) rfl k) ?_
  refine Go.back (f' := (mkF m 25 #[.val (.int q0), .val (.int q1), .val (.int q2), .val (.int q3), .val (.int q4), .val (.int lz), .val (.int q3), .val (.int (((q4.toUInt32 >>> ((1 : Int32) &&& 31).toUInt32).toInt32) &&& (3 : Int32))), .unset, .unset] [])) (fun _ k => XS.istore X0.here hx rfl (hb hby at_23) rfl (l' := #[.val (.int q0), .val (.int q1), .val (.int q2), .val (.int q3), .val (.int q4), .val (.int lz), .val (.int q3), .val (.int (((q4.toUInt32 >>> ((1 : Int32) &&& 31).toUInt32).toInt32) &&& (3 : Int32))), .unset, .unset]) rfl k) ?_
  refine Go.back (f' := (mkF m 27 #[.val (.int q0), .val (.int q1), .val (.int q2), .val (.int q3), .val (.int q4), .val (.int lz), .val (.int q3), .val (.int (((q4.toUInt32 >>> ((1 : Int32) &&& 31).toUInt32).toInt32) &&& (3 : Int32))), .unset, .unset] [(.int (((q4.toUInt32 >>> ((1 : Int32) &&& 31).toUInt32).toInt32) &&& (3 : Int32)))])) (fun _ k => XS.iload X0.here hx rfl (hb hby at_25) rfl k) ?_
  refine Go.back (f' := (mkF m 28 #[.val (.int q0), .val (.int q1), .val (.int q2), .val (.int q3), .val (.int q4), .val (.int lz), .val (.int q3), .val (.int (((q4.toUInt32 >>> ((1 : Int32) &&& 31).toUInt32).toInt32) &&& (3 : Int32))), .unset, .unset] [(.int (1 : Int32)), (.int (((q4.toUInt32 >>> ((1 : Int32) &&& 31).toUInt32).toInt32) &&& (3 : Int32)))])) (fun _ k => XS.iconst X0.here hx rfl (hb hby at_27) k) ?_
  suffices jm74 : ∀ mx : Int32, (True) → Go p e below s (fun v h L => v = some (.int 1) ∧ Fr h0.size L) room_1.cells room_1.slots T0 (mkF m 48 #[.val (.int q0), .val (.int q1), .val (.int q2), .val (.int q3), .val (.int q4), .val (.int lz), .val (.int mx), .val (.int (((q4.toUInt32 >>> ((1 : Int32) &&& 31).toUInt32).toInt32) &&& (3 : Int32))), .unset, .unset] []) by
    by_cases hp_mx_0 : (((q4.toUInt32 >>> ((1 : Int32) &&& 31).toUInt32).toInt32) &&& (3 : Int32)) = (1 : Int32)
    · refine Go.back (f' := (mkF m 31 #[.val (.int q0), .val (.int q1), .val (.int q2), .val (.int q3), .val (.int q4), .val (.int lz), .val (.int q3), .val (.int (((q4.toUInt32 >>> ((1 : Int32) &&& 31).toUInt32).toInt32) &&& (3 : Int32))), .unset, .unset] [])) (fun _ k => XS.icmpNo X0.here hx rfl (hb hby at_28) rfl (teq hp_mx_0).2 k) ?_
      refine Go.back (f' := (mkF m 33 #[.val (.int q0), .val (.int q1), .val (.int q2), .val (.int q3), .val (.int q4), .val (.int lz), .val (.int q3), .val (.int (((q4.toUInt32 >>> ((1 : Int32) &&& 31).toUInt32).toInt32) &&& (3 : Int32))), .unset, .unset] [(.int (2147483647 : Int32))])) (fun _ k => X0.ldcInt hx hown (mvT hZ (hw _ (List.mem_of_getElem? (i := 30) rfl))) (g := (mkF m 31 #[.val (.int q0), .val (.int q1), .val (.int q2), .val (.int q3), .val (.int q4), .val (.int lz), .val (.int q3), .val (.int (((q4.toUInt32 >>> ((1 : Int32) &&& 31).toUInt32).toInt32) &&& (3 : Int32))), .unset, .unset] [])) rfl (hb hby at_31) _ k) ?_
      refine Go.back (f' := (mkF m 35 #[.val (.int q0), .val (.int q1), .val (.int q2), .val (.int q3), .val (.int q4), .val (.int lz), .val (.int (2147483647 : Int32)), .val (.int (((q4.toUInt32 >>> ((1 : Int32) &&& 31).toUInt32).toInt32) &&& (3 : Int32))), .unset, .unset] [])) (fun _ k => XS.istore X0.here hx rfl (hb hby at_33) rfl (l' := #[.val (.int q0), .val (.int q1), .val (.int q2), .val (.int q3), .val (.int q4), .val (.int lz), .val (.int (2147483647 : Int32)), .val (.int (((q4.toUInt32 >>> ((1 : Int32) &&& 31).toUInt32).toInt32) &&& (3 : Int32))), .unset, .unset]) rfl k) ?_
      refine Go.back (f' := (mkF m 48 #[.val (.int q0), .val (.int q1), .val (.int q2), .val (.int q3), .val (.int q4), .val (.int lz), .val (.int (2147483647 : Int32)), .val (.int (((q4.toUInt32 >>> ((1 : Int32) &&& 31).toUInt32).toInt32) &&& (3 : Int32))), .unset, .unset] [])) (fun _ k => XS.goto X0.here hx rfl (pc0 := 35) (pc' := 48) rfl (hb hby at_35) (by decide) (by decide) k) ?_
      exact jm74 (2147483647 : Int32) trivial
    · refine Go.back (f' := (mkF m 38 #[.val (.int q0), .val (.int q1), .val (.int q2), .val (.int q3), .val (.int q4), .val (.int lz), .val (.int q3), .val (.int (((q4.toUInt32 >>> ((1 : Int32) &&& 31).toUInt32).toInt32) &&& (3 : Int32))), .unset, .unset] [])) (fun _ k => XS.icmpYes X0.here hx rfl (pc0 := 28) (pc' := 38) rfl (hb hby at_28) rfl (feq hp_mx_0).2 (by decide) (by decide) k) ?_
      refine Go.back (f' := (mkF m 40 #[.val (.int q0), .val (.int q1), .val (.int q2), .val (.int q3), .val (.int q4), .val (.int lz), .val (.int q3), .val (.int (((q4.toUInt32 >>> ((1 : Int32) &&& 31).toUInt32).toInt32) &&& (3 : Int32))), .unset, .unset] [(.int (((q4.toUInt32 >>> ((1 : Int32) &&& 31).toUInt32).toInt32) &&& (3 : Int32)))])) (fun _ k => XS.iload X0.here hx rfl (hb hby at_38) rfl k) ?_
      refine Go.back (f' := (mkF m 41 #[.val (.int q0), .val (.int q1), .val (.int q2), .val (.int q3), .val (.int q4), .val (.int lz), .val (.int q3), .val (.int (((q4.toUInt32 >>> ((1 : Int32) &&& 31).toUInt32).toInt32) &&& (3 : Int32))), .unset, .unset] [(.int (2 : Int32)), (.int (((q4.toUInt32 >>> ((1 : Int32) &&& 31).toUInt32).toInt32) &&& (3 : Int32)))])) (fun _ k => XS.iconst X0.here hx rfl (hb hby at_40) k) ?_
      by_cases hp_mx_1 : (((q4.toUInt32 >>> ((1 : Int32) &&& 31).toUInt32).toInt32) &&& (3 : Int32)) = (2 : Int32)
      · refine Go.back (f' := (mkF m 44 #[.val (.int q0), .val (.int q1), .val (.int q2), .val (.int q3), .val (.int q4), .val (.int lz), .val (.int q3), .val (.int (((q4.toUInt32 >>> ((1 : Int32) &&& 31).toUInt32).toInt32) &&& (3 : Int32))), .unset, .unset] [])) (fun _ k => XS.icmpNo X0.here hx rfl (hb hby at_41) rfl (teq hp_mx_1).2 k) ?_
        refine Go.back (f' := (mkF m 46 #[.val (.int q0), .val (.int q1), .val (.int q2), .val (.int q3), .val (.int q4), .val (.int lz), .val (.int q3), .val (.int (((q4.toUInt32 >>> ((1 : Int32) &&& 31).toUInt32).toInt32) &&& (3 : Int32))), .unset, .unset] [(.int (2147483646 : Int32))])) (fun _ k => X0.ldcInt hx hown (mvT hZ (hw _ (List.mem_of_getElem? (i := 37) rfl))) (g := (mkF m 44 #[.val (.int q0), .val (.int q1), .val (.int q2), .val (.int q3), .val (.int q4), .val (.int lz), .val (.int q3), .val (.int (((q4.toUInt32 >>> ((1 : Int32) &&& 31).toUInt32).toInt32) &&& (3 : Int32))), .unset, .unset] [])) rfl (hb hby at_44) _ k) ?_
        refine Go.back (f' := (mkF m 48 #[.val (.int q0), .val (.int q1), .val (.int q2), .val (.int q3), .val (.int q4), .val (.int lz), .val (.int (2147483646 : Int32)), .val (.int (((q4.toUInt32 >>> ((1 : Int32) &&& 31).toUInt32).toInt32) &&& (3 : Int32))), .unset, .unset] [])) (fun _ k => XS.istore X0.here hx rfl (hb hby at_46) rfl (l' := #[.val (.int q0), .val (.int q1), .val (.int q2), .val (.int q3), .val (.int q4), .val (.int lz), .val (.int (2147483646 : Int32)), .val (.int (((q4.toUInt32 >>> ((1 : Int32) &&& 31).toUInt32).toInt32) &&& (3 : Int32))), .unset, .unset]) rfl k) ?_
        exact jm74 (2147483646 : Int32) trivial
      · refine Go.back (f' := (mkF m 48 #[.val (.int q0), .val (.int q1), .val (.int q2), .val (.int q3), .val (.int q4), .val (.int lz), .val (.int q3), .val (.int (((q4.toUInt32 >>> ((1 : Int32) &&& 31).toUInt32).toInt32) &&& (3 : Int32))), .unset, .unset] [])) (fun _ k => XS.icmpYes X0.here hx rfl (pc0 := 41) (pc' := 48) rfl (hb hby at_41) rfl (feq hp_mx_1).2 (by decide) (by decide) k) ?_
        exact jm74 q3 trivial
  intro mx h_mx
  have K0 : Chg h0.size h0 h0 [] [] := Chg.refl (Nat.le_refl _)
  obtain ⟨T75, h75, X75, e75, E75, A75, D75, -, st75⟩ := newO X0 hx hZ hown (hw _ (List.mem_of_getElem? (i := 0) rfl)) (hw _ (List.mem_of_getElem? (i := 1) rfl)) (hw _ (List.mem_of_getElem? (i := 2) rfl)) e0 (g := (mkF m 48 #[.val (.int q0), .val (.int q1), .val (.int q2), .val (.int q3), .val (.int q4), .val (.int lz), .val (.int mx), .val (.int (((q4.toUInt32 >>> ((1 : Int32) &&& 31).toUInt32).toInt32) &&& (3 : Int32))), .unset, .unset] [])) rfl (hb hby at_48) (by decide) (by decide)
  obtain ⟨a1, q75⟩ : ∃ z, z = h0.size := ⟨_, rfl⟩
  rw [← q75] at A75 D75 st75
  have sz_a1 := K0.at q75
  have g_a1 := K0.ge sz_a1
  have St_76 := SA.ext E75
  have K_77 := K0.ext E75
  have Fl_78 : Fld Z h75 a1 "com/example/durable_coordinator/durablecoordinator/coordinator/RegexNode" "next" "Lcom/example/durable_coordinator/durablecoordinator/coordinator/RegexNode;" .null := D75 (Or.inl (hw _ (List.mem_of_getElem? (i := 17) rfl))) (ty := (.object "com/example/durable_coordinator/durablecoordinator/coordinator/RegexNode")) (by decide)
  have Fl_79 : Fld Z h75 a1 "com/example/durable_coordinator/durablecoordinator/coordinator/RegexNode$Loop" "memo" "I" (.int (0 : Int32)) := D75 (Or.inl (hw _ (List.mem_of_getElem? (i := 19) rfl))) (ty := .int) (by decide)
  have Fl_80 : Fld Z h75 a1 "com/example/durable_coordinator/durablecoordinator/coordinator/RegexNode$Loop" "countLocal" "I" (.int (0 : Int32)) := D75 (Or.inr (hw _ (List.mem_of_getElem? (i := 21) rfl))) (ty := .int) (by decide)
  have Fl_81 : Fld Z h75 a1 "com/example/durable_coordinator/durablecoordinator/coordinator/RegexNode$Loop" "beginLocal" "I" (.int (0 : Int32)) := D75 (Or.inr (hw _ (List.mem_of_getElem? (i := 23) rfl))) (ty := .int) (by decide)
  have Fl_82 : Fld Z h75 a1 "com/example/durable_coordinator/durablecoordinator/coordinator/RegexNode$Loop" "min" "I" (.int (0 : Int32)) := D75 (Or.inr (hw _ (List.mem_of_getElem? (i := 25) rfl))) (ty := .int) (by decide)
  have Fl_83 : Fld Z h75 a1 "com/example/durable_coordinator/durablecoordinator/coordinator/RegexNode$Loop" "max" "I" (.int (0 : Int32)) := D75 (Or.inr (hw _ (List.mem_of_getElem? (i := 27) rfl))) (ty := .int) (by decide)
  have Fl_84 : Fld Z h75 a1 "com/example/durable_coordinator/durablecoordinator/coordinator/RegexNode$Loop" "lazy" "Z" (.int (0 : Int32)) := D75 (Or.inr (hw _ (List.mem_of_getElem? (i := 29) rfl))) (ty := .boolean) (by decide)
  refine Go.back (f' := (mkF m 51 #[.val (.int q0), .val (.int q1), .val (.int q2), .val (.int q3), .val (.int q4), .val (.int lz), .val (.int mx), .val (.int (((q4.toUInt32 >>> ((1 : Int32) &&& 31).toUInt32).toInt32) &&& (3 : Int32))), .unset, .unset] [(.ref a1)])) st75 ?_
  refine Go.back (f' := (mkF m 52 #[.val (.int q0), .val (.int q1), .val (.int q2), .val (.int q3), .val (.int q4), .val (.int lz), .val (.int mx), .val (.int (((q4.toUInt32 >>> ((1 : Int32) &&& 31).toUInt32).toInt32) &&& (3 : Int32))), .unset, .unset] [(.ref a1), (.ref a1)])) (fun _ k => XS.dup X75.here hx rfl (hb hby at_51) rfl rfl k) ?_
  refine Go.back (f' := (mkF m 53 #[.val (.int q0), .val (.int q1), .val (.int q2), .val (.int q3), .val (.int q4), .val (.int lz), .val (.int mx), .val (.int (((q4.toUInt32 >>> ((1 : Int32) &&& 31).toUInt32).toInt32) &&& (3 : Int32))), .unset, .unset] [(.int q0), (.ref a1), (.ref a1)])) (fun _ k => XS.iloadN X75.here hx rfl (hb hby at_52) rfl k) ?_
  refine Go.back (f' := (mkF m 54 #[.val (.int q0), .val (.int q1), .val (.int q2), .val (.int q3), .val (.int q4), .val (.int lz), .val (.int mx), .val (.int (((q4.toUInt32 >>> ((1 : Int32) &&& 31).toUInt32).toInt32) &&& (3 : Int32))), .unset, .unset] [(.int q1), (.int q0), (.ref a1), (.ref a1)])) (fun _ k => XS.iloadN X75.here hx rfl (hb hby at_53) rfl k) ?_
  refine Go.back (f' := (mkF m 55 #[.val (.int q0), .val (.int q1), .val (.int q2), .val (.int q3), .val (.int q4), .val (.int lz), .val (.int mx), .val (.int (((q4.toUInt32 >>> ((1 : Int32) &&& 31).toUInt32).toInt32) &&& (3 : Int32))), .unset, .unset] [(.int q2), (.int q1), (.int q0), (.ref a1), (.ref a1)])) (fun _ k => XS.iloadN X75.here hx rfl (hb hby at_54) rfl k) ?_
  refine Go.back (f' := (mkF m 57 #[.val (.int q0), .val (.int q1), .val (.int q2), .val (.int q3), .val (.int q4), .val (.int lz), .val (.int mx), .val (.int (((q4.toUInt32 >>> ((1 : Int32) &&& 31).toUInt32).toInt32) &&& (3 : Int32))), .unset, .unset] [(.int mx), (.int q2), (.int q1), (.int q0), (.ref a1), (.ref a1)])) (fun _ k => XS.iload X75.here hx rfl (hb hby at_55) rfl k) ?_
  refine Go.back (f' := (mkF m 59 #[.val (.int q0), .val (.int q1), .val (.int q2), .val (.int q3), .val (.int q4), .val (.int lz), .val (.int mx), .val (.int (((q4.toUInt32 >>> ((1 : Int32) &&& 31).toUInt32).toInt32) &&& (3 : Int32))), .unset, .unset] [(.int lz), (.int mx), (.int q2), (.int q1), (.int q0), (.ref a1), (.ref a1)])) (fun _ k => XS.iload X75.here hx rfl (hb hby at_57) rfl k) ?_
  refine Go.callI X75 hx hZ rfl hown (hw _ (List.mem_of_getElem? (i := 3) rfl)) (hw _ (List.mem_of_getElem? (i := 4) rfl)) (hw _ (List.mem_of_getElem? (i := 2) rfl)) (hw _ (List.mem_of_getElem? (i := 5) rfl)) (by decide) e75 (a := a1) (argsL := [(.int q0), (.int q1), (.int q2), (.int mx), (.int lz)]) (rest := [(.ref a1)]) (rm1 l Z a0 hw a1 acc q0 q1 q2 mx lz h0.size h75 K_77.size A75 Fl_78 St_76 g_a1 Fl_79 Fl_80 Fl_81 Fl_82 Fl_83 Fl_84) (lenOf pd_1 rfl) rfl (by rw [hml]; rfl) (W := 1) (Nat.le_of_eq rfl) (hb hby at_59) (by decide) (by decide) (by decide) (by decide) ?_
  intro v85 T85 L85 X85 hQ85
  obtain ⟨rfl, C85, E185, M185, Z185⟩ := hQ85
  have St_86 := staKeep St_76 C85.keep (own_nsS (own_exaNS A75) own_ns0)
  have Ex_87 := A75.keep C85.keep
  have K_88 := K_77.call C85 (allS (Or.inr sz_a1) all0)
  show GoG _ _ _ _ _ (mkF m 62 #[.val (.int q0), .val (.int q1), .val (.int q2), .val (.int q3), .val (.int q4), .val (.int lz), .val (.int mx), .val (.int (((q4.toUInt32 >>> ((1 : Int32) &&& 31).toUInt32).toInt32) &&& (3 : Int32))), .unset, .unset] [(.ref a1)])
  rw [nar_bool h_lz] at Z185
  refine Go.back (f' := (mkF m 64 #[.val (.int q0), .val (.int q1), .val (.int q2), .val (.int q3), .val (.int q4), .val (.int lz), .val (.int mx), .val (.int (((q4.toUInt32 >>> ((1 : Int32) &&& 31).toUInt32).toInt32) &&& (3 : Int32))), .val (.ref a1), .unset] [])) (fun _ k => XS.astore X85.here hx rfl (hb hby at_62) rfl rfl (l' := #[.val (.int q0), .val (.int q1), .val (.int q2), .val (.int q3), .val (.int q4), .val (.int lz), .val (.int mx), .val (.int (((q4.toUInt32 >>> ((1 : Int32) &&& 31).toUInt32).toInt32) &&& (3 : Int32))), .val (.ref a1), .unset]) rfl k) ?_
  refine Go.back (f' := (mkF m 66 #[.val (.int q0), .val (.int q1), .val (.int q2), .val (.int q3), .val (.int q4), .val (.int lz), .val (.int mx), .val (.int (((q4.toUInt32 >>> ((1 : Int32) &&& 31).toUInt32).toInt32) &&& (3 : Int32))), .val (.ref a1), .unset] [(.int lz)])) (fun _ k => XS.iload X85.here hx rfl (hb hby at_64) rfl k) ?_
  suffices jm89 : ∀ ex : Int32, ((ex = 0 ∨ ex = 1) ∧ (ex = 1 ↔ (lz = 0 ∧ mx = 2147483647))) → Go p e below s (fun v h L => v = some (.int 1) ∧ Fr h0.size L) room_1.cells room_1.slots T85 (mkF m 91 #[.val (.int q0), .val (.int q1), .val (.int q2), .val (.int q3), .val (.int q4), .val (.int lz), .val (.int mx), .val (.int (((q4.toUInt32 >>> ((1 : Int32) &&& 31).toUInt32).toInt32) &&& (3 : Int32))), .val (.ref a1), .val (.int ex)] []) by
    by_cases hp_ex_0 : lz = 0
    · refine Go.back (f' := (mkF m 75 #[.val (.int q0), .val (.int q1), .val (.int q2), .val (.int q3), .val (.int q4), .val (.int lz), .val (.int mx), .val (.int (((q4.toUInt32 >>> ((1 : Int32) &&& 31).toUInt32).toInt32) &&& (3 : Int32))), .val (.ref a1), .unset] [])) (fun _ k => XS.ifYes X85.here hx rfl (pc0 := 66) (pc' := 75) rfl (hb hby at_66) rfl ((if0 _ _).trans (teq hp_ex_0).1) (by decide) (by decide) k) ?_
      refine Go.back (f' := (mkF m 77 #[.val (.int q0), .val (.int q1), .val (.int q2), .val (.int q3), .val (.int q4), .val (.int lz), .val (.int mx), .val (.int (((q4.toUInt32 >>> ((1 : Int32) &&& 31).toUInt32).toInt32) &&& (3 : Int32))), .val (.ref a1), .unset] [(.int mx)])) (fun _ k => XS.iload X85.here hx rfl (hb hby at_75) rfl k) ?_
      refine Go.back (f' := (mkF m 79 #[.val (.int q0), .val (.int q1), .val (.int q2), .val (.int q3), .val (.int q4), .val (.int lz), .val (.int mx), .val (.int (((q4.toUInt32 >>> ((1 : Int32) &&& 31).toUInt32).toInt32) &&& (3 : Int32))), .val (.ref a1), .unset] [(.int (2147483647 : Int32)), (.int mx)])) (fun _ k => X85.ldcInt hx hown (mvT hZ (hw _ (List.mem_of_getElem? (i := 30) rfl))) (g := (mkF m 77 #[.val (.int q0), .val (.int q1), .val (.int q2), .val (.int q3), .val (.int q4), .val (.int lz), .val (.int mx), .val (.int (((q4.toUInt32 >>> ((1 : Int32) &&& 31).toUInt32).toInt32) &&& (3 : Int32))), .val (.ref a1), .unset] [(.int mx)])) rfl (hb hby at_77) _ k) ?_
      by_cases hp_ex_1 : mx = (2147483647 : Int32)
      · refine Go.back (f' := (mkF m 82 #[.val (.int q0), .val (.int q1), .val (.int q2), .val (.int q3), .val (.int q4), .val (.int lz), .val (.int mx), .val (.int (((q4.toUInt32 >>> ((1 : Int32) &&& 31).toUInt32).toInt32) &&& (3 : Int32))), .val (.ref a1), .unset] [])) (fun _ k => XS.icmpNo X85.here hx rfl (hb hby at_79) rfl (teq hp_ex_1).2 k) ?_
        refine Go.back (f' := (mkF m 83 #[.val (.int q0), .val (.int q1), .val (.int q2), .val (.int q3), .val (.int q4), .val (.int lz), .val (.int mx), .val (.int (((q4.toUInt32 >>> ((1 : Int32) &&& 31).toUInt32).toInt32) &&& (3 : Int32))), .val (.ref a1), .unset] [(.int (1 : Int32))])) (fun _ k => XS.iconst X85.here hx rfl (hb hby at_82) k) ?_
        refine Go.back (f' := (mkF m 85 #[.val (.int q0), .val (.int q1), .val (.int q2), .val (.int q3), .val (.int q4), .val (.int lz), .val (.int mx), .val (.int (((q4.toUInt32 >>> ((1 : Int32) &&& 31).toUInt32).toInt32) &&& (3 : Int32))), .val (.ref a1), .val (.int (1 : Int32))] [])) (fun _ k => XS.istore X85.here hx rfl (hb hby at_83) rfl (l' := #[.val (.int q0), .val (.int q1), .val (.int q2), .val (.int q3), .val (.int q4), .val (.int lz), .val (.int mx), .val (.int (((q4.toUInt32 >>> ((1 : Int32) &&& 31).toUInt32).toInt32) &&& (3 : Int32))), .val (.ref a1), .val (.int (1 : Int32))]) rfl k) ?_
        refine Go.back (f' := (mkF m 91 #[.val (.int q0), .val (.int q1), .val (.int q2), .val (.int q3), .val (.int q4), .val (.int lz), .val (.int mx), .val (.int (((q4.toUInt32 >>> ((1 : Int32) &&& 31).toUInt32).toInt32) &&& (3 : Int32))), .val (.ref a1), .val (.int (1 : Int32))] [])) (fun _ k => XS.goto X85.here hx rfl (pc0 := 85) (pc' := 91) rfl (hb hby at_85) (by decide) (by decide) k) ?_
        exact jm89 (1 : Int32) (by simp [hp_ex_0, hp_ex_1])
      · refine Go.back (f' := (mkF m 88 #[.val (.int q0), .val (.int q1), .val (.int q2), .val (.int q3), .val (.int q4), .val (.int lz), .val (.int mx), .val (.int (((q4.toUInt32 >>> ((1 : Int32) &&& 31).toUInt32).toInt32) &&& (3 : Int32))), .val (.ref a1), .unset] [])) (fun _ k => XS.icmpYes X85.here hx rfl (pc0 := 79) (pc' := 88) rfl (hb hby at_79) rfl (feq hp_ex_1).2 (by decide) (by decide) k) ?_
        refine Go.back (f' := (mkF m 89 #[.val (.int q0), .val (.int q1), .val (.int q2), .val (.int q3), .val (.int q4), .val (.int lz), .val (.int mx), .val (.int (((q4.toUInt32 >>> ((1 : Int32) &&& 31).toUInt32).toInt32) &&& (3 : Int32))), .val (.ref a1), .unset] [(.int (0 : Int32))])) (fun _ k => XS.iconst X85.here hx rfl (hb hby at_88) k) ?_
        refine Go.back (f' := (mkF m 91 #[.val (.int q0), .val (.int q1), .val (.int q2), .val (.int q3), .val (.int q4), .val (.int lz), .val (.int mx), .val (.int (((q4.toUInt32 >>> ((1 : Int32) &&& 31).toUInt32).toInt32) &&& (3 : Int32))), .val (.ref a1), .val (.int (0 : Int32))] [])) (fun _ k => XS.istore X85.here hx rfl (hb hby at_89) rfl (l' := #[.val (.int q0), .val (.int q1), .val (.int q2), .val (.int q3), .val (.int q4), .val (.int lz), .val (.int mx), .val (.int (((q4.toUInt32 >>> ((1 : Int32) &&& 31).toUInt32).toInt32) &&& (3 : Int32))), .val (.ref a1), .val (.int (0 : Int32))]) rfl k) ?_
        exact jm89 (0 : Int32) (by simp [hp_ex_0, hp_ex_1])
    · refine Go.back (f' := (mkF m 69 #[.val (.int q0), .val (.int q1), .val (.int q2), .val (.int q3), .val (.int q4), .val (.int lz), .val (.int mx), .val (.int (((q4.toUInt32 >>> ((1 : Int32) &&& 31).toUInt32).toInt32) &&& (3 : Int32))), .val (.ref a1), .unset] [])) (fun _ k => XS.ifNo X85.here hx rfl (hb hby at_66) rfl ((if0 _ _).trans (feq hp_ex_0).1) k) ?_
      refine Go.back (f' := (mkF m 70 #[.val (.int q0), .val (.int q1), .val (.int q2), .val (.int q3), .val (.int q4), .val (.int lz), .val (.int mx), .val (.int (((q4.toUInt32 >>> ((1 : Int32) &&& 31).toUInt32).toInt32) &&& (3 : Int32))), .val (.ref a1), .unset] [(.int (0 : Int32))])) (fun _ k => XS.iconst X85.here hx rfl (hb hby at_69) k) ?_
      refine Go.back (f' := (mkF m 72 #[.val (.int q0), .val (.int q1), .val (.int q2), .val (.int q3), .val (.int q4), .val (.int lz), .val (.int mx), .val (.int (((q4.toUInt32 >>> ((1 : Int32) &&& 31).toUInt32).toInt32) &&& (3 : Int32))), .val (.ref a1), .val (.int (0 : Int32))] [])) (fun _ k => XS.istore X85.here hx rfl (hb hby at_70) rfl (l' := #[.val (.int q0), .val (.int q1), .val (.int q2), .val (.int q3), .val (.int q4), .val (.int lz), .val (.int mx), .val (.int (((q4.toUInt32 >>> ((1 : Int32) &&& 31).toUInt32).toInt32) &&& (3 : Int32))), .val (.ref a1), .val (.int (0 : Int32))]) rfl k) ?_
      refine Go.back (f' := (mkF m 91 #[.val (.int q0), .val (.int q1), .val (.int q2), .val (.int q3), .val (.int q4), .val (.int lz), .val (.int mx), .val (.int (((q4.toUInt32 >>> ((1 : Int32) &&& 31).toUInt32).toInt32) &&& (3 : Int32))), .val (.ref a1), .val (.int (0 : Int32))] [])) (fun _ k => XS.goto X85.here hx rfl (pc0 := 72) (pc' := 91) rfl (hb hby at_72) (by decide) (by decide) k) ?_
      exact jm89 (0 : Int32) (by simp [hp_ex_0])
  intro ex h_ex
  refine Go.back (f' := (mkF m 93 #[.val (.int q0), .val (.int q1), .val (.int q2), .val (.int q3), .val (.int q4), .val (.int lz), .val (.int mx), .val (.int (((q4.toUInt32 >>> ((1 : Int32) &&& 31).toUInt32).toInt32) &&& (3 : Int32))), .val (.ref a1), .val (.int ex)] [(.ref a1)])) (fun _ k => XS.aload X85.here hx rfl (hb hby at_91) rfl rfl k) ?_
  refine Go.callV X85 hx hZ hown (hw _ (List.mem_of_getElem? (i := 31) rfl)) (hw _ (List.mem_of_getElem? (i := 32) rfl)) (hw _ (List.mem_of_getElem? (i := 34) rfl)) (hw _ (List.mem_of_getElem? (i := 33) rfl)) (hw _ (List.mem_of_getElem? (i := 2) rfl)) (hw _ (List.mem_of_getElem? (i := 35) rfl)) (by decide) rfl E185 (argsL := []) (rest := []) (rm4 l Z a0 hw a1 mx lz T85.heap M185 Z185) (lenOf pd_2 rfl) rfl (by rw [hml]; rfl) (W := 0) (Nat.le_of_eq rfl) (hb hby at_93) (by decide) (by decide) (by decide) (by decide) ?_
  intro v90 T90 L90 X90 hQ90
  obtain ⟨gg, rfl, g01, gi, rfl, hh90⟩ := hQ90
  rw [List.append_nil] at X90
  show GoG _ _ _ _ _ (mkF m 96 #[.val (.int q0), .val (.int q1), .val (.int q2), .val (.int q3), .val (.int q4), .val (.int lz), .val (.int mx), .val (.int (((q4.toUInt32 >>> ((1 : Int32) &&& 31).toUInt32).toInt32) &&& (3 : Int32))), .val (.ref a1), .val (.int ex)] [(.int gg)])
  refine Go.back (f' := (mkF m 98 #[.val (.int q0), .val (.int q1), .val (.int q2), .val (.int q3), .val (.int q4), .val (.int lz), .val (.int mx), .val (.int (((q4.toUInt32 >>> ((1 : Int32) &&& 31).toUInt32).toInt32) &&& (3 : Int32))), .val (.ref a1), .val (.int ex)] [(.int ex), (.int gg)])) (fun _ k => XS.iload X90.here hx rfl (hb hby at_96) rfl k) ?_
  refine Go.back (f' := (mkF m 101 #[.val (.int q0), .val (.int q1), .val (.int q2), .val (.int q3), .val (.int q4), .val (.int lz), .val (.int mx), .val (.int (((q4.toUInt32 >>> ((1 : Int32) &&& 31).toUInt32).toInt32) &&& (3 : Int32))), .val (.ref a1), .val (.int ex)] [])) (fun _ k => XS.icmpNo X90.here hx rfl (hb hby at_98) rfl (teq (own_b2 g01 h_ex.1 (by rw [gi, h_ex.2]))).2 k) ?_
  refine Go.back (f' := (mkF m 102 #[.val (.int q0), .val (.int q1), .val (.int q2), .val (.int q3), .val (.int q4), .val (.int lz), .val (.int mx), .val (.int (((q4.toUInt32 >>> ((1 : Int32) &&& 31).toUInt32).toInt32) &&& (3 : Int32))), .val (.ref a1), .val (.int ex)] [(.int (1 : Int32))])) (fun _ k => XS.iconst X90.here hx rfl (hb hby at_101) k) ?_
  refine Go.back (f' := (mkF m 106 #[.val (.int q0), .val (.int q1), .val (.int q2), .val (.int q3), .val (.int q4), .val (.int lz), .val (.int mx), .val (.int (((q4.toUInt32 >>> ((1 : Int32) &&& 31).toUInt32).toInt32) &&& (3 : Int32))), .val (.ref a1), .val (.int ex)] [(.int (1 : Int32))])) (fun _ k => XS.goto X90.here hx rfl (pc0 := 102) (pc' := 106) rfl (hb hby at_102) (by decide) (by decide) k) ?_
  exact Go.retN X90 hx (t := .boolean) hret (by simp) (w := (1 : Int32)) rfl hlk (hb hby at_106) (by (try rw [hh90]); exact ⟨rfl, K_88.fr⟩) (by decide) (by decide)
set_option maxRecDepth 65536 in
set_option maxHeartbeats 40000000 in
theorem comes_1 {Post : Tables → Env → Array Value → State → Outcome → State → Prop} (hpost : ∀ tb e args s v u, (limb_1_1.after args s (.returned v) u = true ∧ limb_1_2.after args s (.returned v) u = true ∧ True) → FrameEnd s (.returned v) u (Jvm.fieldLocs frame_1_writes args s ++ Jvm.arrayLocs frame_1_arrays args s ++ Jvm.staticLocs frame_1_statics s) 16 128 → Post tb e args s (.returned v) u) :
    ArmFor flags0 classFile x code maxLocals ret World_1 tables_1 room_1 Calls_1 rest_1 Pre_1 Post := by
  intro l hfl _ _ p e ha hc hk s m args below hf hA hF happ hP
  obtain ⟨hcalls, hrest, hpre⟩ := hP
  obtain ⟨-, -, -, hnamed, -, -, -, hat⟩ := (Spec.applies_iff hf).mp happ
  obtain ⟨hg, hn⟩ := and_e (Cond.before_iff.mp (show (Jvm.Cond.and given_1 narrow_1).before args s = true from hpre))
  obtain ⟨hcnt, hg0⟩ := and_e hg
  obtain ⟨ht0, hg1⟩ := and_e hg0
  obtain ⟨ht1, hg2⟩ := and_e hg1
  obtain ⟨ht2, hg3⟩ := and_e hg2
  obtain ⟨ht3, hg4⟩ := and_e hg3
  have ht4 := hg4
  obtain ⟨w0, w1, w2, w3, w4, rfl⟩ : ∃ w0 w1 w2 w3 w4 : Value, args = #[w0, w1, w2, w3, w4] := by
    have hs : args.size = 5 := by simpa [Cond.value, given_1] using hcnt
    obtain ⟨L⟩ := args
    match L, hs with
    | [w0, w1, w2, w3, w4], _ => exact ⟨w0, w1, w2, w3, w4, rfl⟩
  have hw := fun d (hd : d ∈ tables_1) => atoms_spec (ws := Jvm.Cond.code x code maxLocals ret :: tables_1) hat d (List.mem_cons_of_mem _ hd)
  have hfit : Fit s := fun {y c} hc i hi => by
    obtain ⟨ha, rfl⟩ := Array.getElem?_eq_some_iff.mp hc
    have q := List.all_eq_true.mp ((Array.all_eq_true_iff_forall_mem.mp hF) _ (Array.getElem_mem ha)) i (List.mem_range.mpr hi)
    simpa [Array.getElem?_eq_getElem hi] using q
  obtain ⟨i0, ei0⟩ := is_v ht0
  obtain rfl : w0 = (.int i0) := Option.some.inj ei0
  obtain ⟨i1, ei1⟩ := is_v ht1
  obtain rfl : w1 = (.int i1) := Option.some.inj ei1
  obtain ⟨i2, ei2⟩ := is_v ht2
  obtain rfl : w2 = (.int i2) := Option.some.inj ei2
  obtain ⟨i3, ei3⟩ := is_v ht3
  obtain rfl : w3 = (.int i3) := Option.some.inj ei3
  obtain ⟨i4, ei4⟩ := is_v ht4
  obtain rfl : w4 = (.int i4) := Option.some.inj ei4
  obtain ⟨acc, _, _, _, ea, -⟩ := Cond.exactly_spec (Cond.before_iff.mpr hn)
  have SA : Sta s s.heap "com/example/durable_coordinator/durablecoordinator/coordinator/RegexNode" "ACCEPT" "Lcom/example/durable_coordinator/durablecoordinator/coordinator/RegexNode;" (.ref acc) := Sta.start ea (Or.inr ⟨(hw _ (List.mem_of_getElem? (i := 9) rfl)), (hw _ (List.mem_of_getElem? (i := 15) rfl))⟩)
  obtain ⟨n, o, h1, h2, h3, _, L, rfl, ⟨rfl, N⟩, hq⟩ := (rm0 l s _ hw acc i0 i1 i2 i3 i4 s.heap SA) tables_1 p e ha hc hk s m _ below hf ((Spec.applies_iff_loose hf).mp happ).1 ⟨rfl, State.Warmed39.refl s, rfl⟩ trivial
  refine ⟨n, _, h1, h2, h3, hpost _ _ _ _ _ _ ⟨Cond.after_iff.mpr rfl, Cond.after_iff.mpr (eq_i res_at (Term.int_eval (1)) rfl), trivial⟩ ⟨hq.1, hq.2.1, (hq.2.2.sift fun y hy => Or.inr (N y hy)).mono (by decide) (by decide)⟩⟩
theorem main_1_1 : Claimed_1_1 := comes_1 fun _ _ _ _ _ _ h hF => ⟨h.1, hF⟩
theorem main_1_2 : Claimed_1_2 := comes_1 fun _ _ _ _ _ _ h hF => ⟨h.2.1, hF⟩
end Jvm.Pilot.@@N@@
namespace Jvm.Pilot.@@N@@
open Jvm Jvm.ClassFile Sem Op Lib Jvm.Free Jvm.Stand Jvm.Pilot.@@N@@.Jvm.D
/-! MADE BY PROGRAM (witnessworld.py) out of the Statement's table words and the real class files: 9 classes; the members and pool entries that the words name. The judged class is class 1, her method 1. -/
namespace start1
open Jvm.ClassFile
def u (s : String) : CpInfo := .utf8 (stringToUtf16 s)
/-- a pool by its gaps: so many unusable entries, then the entry; so many at the end -/
def gap : Nat → List CpInfo → List CpInfo
  | 0, r => r
  | n + 1, r => .unusable :: gap n r
def poolList (es : List (Nat × CpInfo)) (last : Nat) : List CpInfo := es.foldr (fun e r => gap e.1 (e.2 :: r)) (gap last [])
def pool (es : List (Nat × CpInfo)) (last : Nat) : Array CpInfo := ⟨poolList es last⟩
def fileOf (pool : Array CpInfo) (this : Nat) (attrs : Array Attribute := #[]) (ms : Array MethodInfo := #[]) (fl : Nat := 33) (sup : Nat := 0) (ifs : Array Nat := #[]) (fds : Array FieldInfo := #[]) : ClassFile where
  minorVersion := 0
  majorVersion := 65
  constantPool := pool
  accessFlags := fl
  thisClass := this
  superClass := sup
  interfaces := ifs
  fields := fds
  methods := ms
  attributes := attrs
def plain (name : String) (sup : Option ClassId) : Class where
  name := name
  kind := .ordinary
  loader := none
  accessFlags := 33
  super := sup
  interfaces := #[]
  cf := none
  fields := #[]
  methods := #[]
  instanceTypes := #[]
  staticTypes := #[]
  resolved := #[]
  callSites := []
  init := .initialized
  statics := none
  mirror := none

def pool0 : Array CpInfo := pool [(5, u "<init>"), (0, u "()V"), (1, .class_ 10), (1, u "java/lang/Object")] 113

def k0c0 : Code := { maxStack := 0, maxLocals := 1, code := object_method_1_code, exceptionTable := #[], attributes := #[] }
def k0m0 : Method := { name := "<init>", desc := "()V", sig := { parameters := [], returnType := none }, accessFlags := 1, code := some k0c0 }
/-- java/lang/Object -/
def k0 : Class := { plain "java/lang/Object" none with
  accessFlags := 33
  interfaces := #[]
  cf := some (fileOf pool0 8 #[] #[{ accessFlags := 1, nameIndex := 5, descriptorIndex := 6, attributes := #[] }] 33 0 #[] #[])
  fields := #[]
  methods := #[k0m0]
  instanceTypes := #[]
  staticTypes := #[]
  resolved := Array.replicate 124 none
  statics := none }

def pool1 : Array CpInfo := pool [(2, .class_ 4), (1, u "java/lang/Object"), (0, u "<init>"), (0, u "()V"), (2, .integer 2147483647), (0, .integer 2147483646), (0, .class_ 12), (0, u "com/example/durable_coordinator/durablecoordinator/coordinator/RegexNode$Loop"), (0, .methodref 11 14), (0, .nameAndType 5 15), (0, u "(IIIIZ)V"), (0, .methodref 11 17), (0, .nameAndType 18 19), (0, u "isGreedyWithoutBound"), (0, u "()Z"), (0, .class_ 21), (0, u "com/example/durable_coordinator/durablecoordinator/coordinator/LoopIsGreedyWithoutBoundPinLaw"), (2, u "law"), (0, u "(IIIII)Z")] 7

def k1m0 : Method := { name := "<init>", desc := "()V", sig := { parameters := [], returnType := none }, accessFlags := 1, code := none }
def k1c1 : Code := { maxStack := 7, maxLocals := 10, code := code, exceptionTable := #[], attributes := #[] }
def k1m1 : Method := { name := "law", desc := "(IIIII)Z", sig := { parameters := [.int, .int, .int, .int, .int], returnType := some .boolean }, accessFlags := 9, code := some k1c1 }
/-- com/example/durable_coordinator/durablecoordinator/coordinator/LoopIsGreedyWithoutBoundPinLaw -/
def k1 : Class := { plain "com/example/durable_coordinator/durablecoordinator/coordinator/LoopIsGreedyWithoutBoundPinLaw" (some 0) with
  accessFlags := 49
  interfaces := #[]
  cf := some (fileOf pool1 20 #[] #[{ accessFlags := 1, nameIndex := 5, descriptorIndex := 6, attributes := #[] }, { accessFlags := 9, nameIndex := 24, descriptorIndex := 25, attributes := #[] }] 49 2 #[] #[])
  fields := #[]
  methods := #[k1m0, k1m1]
  instanceTypes := #[]
  staticTypes := #[]
  resolved := Array.replicate 33 none
  statics := none }

def pool2 : Array CpInfo := pool [(3, .methodref 4 5), (0, .class_ 6), (0, .nameAndType 7 8), (0, u "java/lang/Object"), (0, u "<init>"), (0, u "()V"), (0, .fieldref 10 11), (0, .class_ 12), (0, .nameAndType 13 14), (0, u "com/example/durable_coordinator/durablecoordinator/coordinator/RegexNode"), (0, u "ACCEPT"), (0, u "Lcom/example/durable_coordinator/durablecoordinator/coordinator/RegexNode;"), (0, .fieldref 10 16), (0, .nameAndType 17 14), (0, u "next"), (1, .class_ 21), (1, u "com/example/durable_coordinator/durablecoordinator/coordinator/RegexNode$Lengths"), (9, u "I"), (10, .class_ 43), (0, u "com/example/durable_coordinator/durablecoordinator/coordinator/RegexNode$Accept"), (1, u "MAX_REPS"), (13, .class_ 60), (0, u "com/example/durable_coordinator/durablecoordinator/coordinator/RegexNode$BackReference"), (0, .class_ 62), (0, u "com/example/durable_coordinator/durablecoordinator/coordinator/RegexNode$LookBehindEnd"), (0, .class_ 64), (0, u "com/example/durable_coordinator/durablecoordinator/coordinator/RegexNode$LookBehind"), (0, .class_ 66), (0, u "com/example/durable_coordinator/durablecoordinator/coordinator/RegexNode$LookAhead"), (0, .class_ 68), (0, u "com/example/durable_coordinator/durablecoordinator/coordinator/RegexNode$Loop"), (0, .class_ 70), (0, u "com/example/durable_coordinator/durablecoordinator/coordinator/RegexNode$Prolog"), (0, .class_ 72), (0, u "com/example/durable_coordinator/durablecoordinator/coordinator/RegexNode$GroupCurly"), (0, .class_ 74), (0, u "com/example/durable_coordinator/durablecoordinator/coordinator/RegexNode$Curly"), (0, .class_ 76), (0, u "com/example/durable_coordinator/durablecoordinator/coordinator/RegexNode$Ques"), (0, .class_ 78), (0, u "com/example/durable_coordinator/durablecoordinator/coordinator/RegexNode$Quantifier"), (0, .class_ 80), (0, u "com/example/durable_coordinator/durablecoordinator/coordinator/RegexNode$GroupTail"), (0, .class_ 82), (0, u "com/example/durable_coordinator/durablecoordinator/coordinator/RegexNode$GroupHead"), (0, .class_ 84), (0, u "com/example/durable_coordinator/durablecoordinator/coordinator/RegexNode$BranchConn"), (0, .class_ 86), (0, u "com/example/durable_coordinator/durablecoordinator/coordinator/RegexNode$Branch"), (0, .class_ 88), (0, u "com/example/durable_coordinator/durablecoordinator/coordinator/RegexNode$BoundaryNode"), (0, .class_ 90), (0, u "com/example/durable_coordinator/durablecoordinator/coordinator/RegexNode$Boundary"), (0, .class_ 92), (0, u "com/example/durable_coordinator/durablecoordinator/coordinator/RegexNode$LineBreak"), (0, .class_ 94), (0, u "com/example/durable_coordinator/durablecoordinator/coordinator/RegexNode$Grapheme"), (0, .class_ 96), (0, u "com/example/durable_coordinator/durablecoordinator/coordinator/RegexNode$Slice"), (0, .class_ 98), (0, u "com/example/durable_coordinator/durablecoordinator/coordinator/RegexNode$CharNode"), (0, .class_ 100), (0, u "com/example/durable_coordinator/durablecoordinator/coordinator/RegexNode$Empty"), (0, .class_ 102), (0, u "com/example/durable_coordinator/durablecoordinator/coordinator/RegexNode$NameEnd"), (0, .class_ 104), (0, u "com/example/durable_coordinator/durablecoordinator/coordinator/RegexNode$Run")] 26

def k2c0 : Code := { maxStack := 2, maxLocals := 1, code := prog_11_method_1_code, exceptionTable := #[], attributes := #[] }
def k2m0 : Method := { name := "<init>", desc := "()V", sig := { parameters := [], returnType := none }, accessFlags := 0, code := some k2c0 }
/-- com/example/durable_coordinator/durablecoordinator/coordinator/RegexNode -/
def k2 : Class := { plain "com/example/durable_coordinator/durablecoordinator/coordinator/RegexNode" (some 0) with
  accessFlags := 1056
  interfaces := #[]
  cf := some (fileOf pool2 10 #[.nestMembers #[59, 61, 63, 65, 67, 69, 71, 73, 75, 77, 79, 81, 83, 85, 87, 89, 91, 93, 95, 97, 99, 101, 42, 103, 19]] #[{ accessFlags := 0, nameIndex := 7, descriptorIndex := 8, attributes := #[] }] 1056 4 #[] #[{ accessFlags := 24, nameIndex := 45, descriptorIndex := 31, attributes := #[] }, { accessFlags := 24, nameIndex := 13, descriptorIndex := 14, attributes := #[] }, { accessFlags := 0, nameIndex := 17, descriptorIndex := 14, attributes := #[] }])
  fields := #[{ name := "MAX_REPS", type := .int, accessFlags := 24, slot := 0, constantValue := 0 }, { name := "ACCEPT", type := (.object "com/example/durable_coordinator/durablecoordinator/coordinator/RegexNode"), accessFlags := 24, slot := 1, constantValue := 0 }, { name := "next", type := (.object "com/example/durable_coordinator/durablecoordinator/coordinator/RegexNode"), accessFlags := 0, slot := 0, constantValue := 0 }]
  methods := #[k2m0]
  instanceTypes := #[(.object "com/example/durable_coordinator/durablecoordinator/coordinator/RegexNode")]
  staticTypes := #[.int, (.object "com/example/durable_coordinator/durablecoordinator/coordinator/RegexNode")]
  resolved := Array.replicate 131 none
  statics := some 0 }

def pool3 : Array CpInfo := pool [(1, .methodref 2 3), (0, .class_ 4), (0, .nameAndType 5 6), (0, u "com/example/durable_coordinator/durablecoordinator/coordinator/RegexNode"), (0, u "<init>"), (0, u "()V"), (0, .fieldref 8 9), (0, .class_ 10), (0, .nameAndType 11 12), (0, u "com/example/durable_coordinator/durablecoordinator/coordinator/RegexNode$Loop"), (0, u "memo"), (0, u "I"), (0, .fieldref 8 14), (0, .nameAndType 15 12), (0, u "countLocal"), (0, .fieldref 8 17), (0, .nameAndType 18 12), (0, u "beginLocal"), (0, .fieldref 8 20), (0, .nameAndType 21 12), (0, u "min"), (0, .fieldref 8 23), (0, .nameAndType 24 12), (0, u "max"), (0, .fieldref 8 26), (0, .nameAndType 27 28), (0, u "lazy"), (0, u "Z"), (2, u "body"), (0, u "Lcom/example/durable_coordinator/durablecoordinator/coordinator/RegexNode;"), (0, .integer 2147483647), (47, u "(IIIIZ)V"), (4, u "isGreedyWithoutBound"), (0, u "()Z")] 12

def k3c0 : Code := { maxStack := 2, maxLocals := 6, code := prog_30_method_1_code, exceptionTable := #[], attributes := #[] }
def k3m0 : Method := { name := "<init>", desc := "(IIIIZ)V", sig := { parameters := [.int, .int, .int, .int, .boolean], returnType := none }, accessFlags := 0, code := some k3c0 }
def k3c1 : Code := { maxStack := 2, maxLocals := 1, code := prog_30_method_3_code, exceptionTable := #[], attributes := #[] }
def k3m1 : Method := { name := "isGreedyWithoutBound", desc := "()Z", sig := { parameters := [], returnType := some .boolean }, accessFlags := 0, code := some k3c1 }
/-- com/example/durable_coordinator/durablecoordinator/coordinator/RegexNode$Loop -/
def k3 : Class := { plain "com/example/durable_coordinator/durablecoordinator/coordinator/RegexNode$Loop" (some 2) with
  accessFlags := 32
  interfaces := #[]
  cf := some (fileOf pool3 8 #[.nestHost 2] #[{ accessFlags := 0, nameIndex := 5, descriptorIndex := 81, attributes := #[] }, { accessFlags := 0, nameIndex := 86, descriptorIndex := 87, attributes := #[] }] 32 2 #[] #[{ accessFlags := 18, nameIndex := 15, descriptorIndex := 12, attributes := #[] }, { accessFlags := 18, nameIndex := 18, descriptorIndex := 12, attributes := #[] }, { accessFlags := 18, nameIndex := 21, descriptorIndex := 12, attributes := #[] }, { accessFlags := 18, nameIndex := 24, descriptorIndex := 12, attributes := #[] }, { accessFlags := 18, nameIndex := 27, descriptorIndex := 28, attributes := #[] }, { accessFlags := 2, nameIndex := 31, descriptorIndex := 32, attributes := #[] }, { accessFlags := 2, nameIndex := 11, descriptorIndex := 12, attributes := #[] }])
  fields := #[{ name := "countLocal", type := .int, accessFlags := 18, slot := 1, constantValue := 0 }, { name := "beginLocal", type := .int, accessFlags := 18, slot := 2, constantValue := 0 }, { name := "min", type := .int, accessFlags := 18, slot := 3, constantValue := 0 }, { name := "max", type := .int, accessFlags := 18, slot := 4, constantValue := 0 }, { name := "lazy", type := .boolean, accessFlags := 18, slot := 5, constantValue := 0 }, { name := "body", type := (.object "com/example/durable_coordinator/durablecoordinator/coordinator/RegexNode"), accessFlags := 2, slot := 6, constantValue := 0 }, { name := "memo", type := .int, accessFlags := 2, slot := 7, constantValue := 0 }]
  methods := #[k3m0, k3m1]
  instanceTypes := #[(.object "com/example/durable_coordinator/durablecoordinator/coordinator/RegexNode"), .int, .int, .int, .int, .boolean, (.object "com/example/durable_coordinator/durablecoordinator/coordinator/RegexNode"), .int]
  staticTypes := #[]
  resolved := Array.replicate 100 none
  statics := none }

def pool4 : Array CpInfo := pool [(2, .class_ 4), (1, u "com/example/durable_coordinator/durablecoordinator/coordinator/RegexNode"), (0, u "<init>"), (0, u "()V"), (9, .class_ 17), (0, u "com/example/durable_coordinator/durablecoordinator/coordinator/RegexNode$Accept")] 10

def k4m0 : Method := { name := "<init>", desc := "()V", sig := { parameters := [], returnType := none }, accessFlags := 2, code := none }
/-- com/example/durable_coordinator/durablecoordinator/coordinator/RegexNode$Accept -/
def k4 : Class := { plain "com/example/durable_coordinator/durablecoordinator/coordinator/RegexNode$Accept" (some 2) with
  accessFlags := 32
  interfaces := #[]
  cf := some (fileOf pool4 16 #[.nestHost 2] #[{ accessFlags := 2, nameIndex := 5, descriptorIndex := 6, attributes := #[] }] 32 2 #[] #[])
  fields := #[]
  methods := #[k4m0]
  instanceTypes := #[(.object "com/example/durable_coordinator/durablecoordinator/coordinator/RegexNode")]
  staticTypes := #[]
  resolved := Array.replicate 28 none
  statics := none }

def pool5 : Array CpInfo := pool [(1, u "java/lang/Cloneable"), (0, .class_ 1), (0, u "java/lang/Object"), (0, .class_ 3)] 3

/-- java/lang/Cloneable -/
def k5 : Class := { plain "java/lang/Cloneable" (some 0) with
  accessFlags := 1537
  interfaces := #[]
  cf := some (fileOf pool5 2 #[] #[] 1537 4 #[] #[])
  fields := #[]
  methods := #[]
  instanceTypes := #[]
  staticTypes := #[]
  resolved := Array.replicate 8 none
  statics := none }

def pool6 : Array CpInfo := pool [(1, u "java/io/Serializable"), (0, .class_ 1), (0, u "java/lang/Object"), (0, .class_ 3)] 3

/-- java/io/Serializable -/
def k6 : Class := { plain "java/io/Serializable" (some 0) with
  accessFlags := 1537
  interfaces := #[]
  cf := some (fileOf pool6 2 #[] #[] 1537 4 #[] #[])
  fields := #[]
  methods := #[]
  instanceTypes := #[]
  staticTypes := #[]
  resolved := Array.replicate 8 none
  statics := none }

/-- the primitive byte -/
def k7 : Class := { plain "byte" none with kind := .primitive 'B', accessFlags := 0x411 }
/-- [B -/
def k8 : Class := { plain "[B" (some 0) with kind := .array 7 .byte, interfaces := #[5, 6], accessFlags := 1041 }

def heap : Heap := #[{ cls := 2, slots := #[.int 0, .ref 1], vm := .statics 2 },
  { cls := 4, slots := #[.null], vm := .none }]
def classes : Array Class := #[k0, k1, k2, k3, k4, k5, k6, k7, k8]
def interned : List (Array UInt16 × Addr) := []
def slotsUsed : Nat := 3
def theMethod : MethodId := ⟨1, 1⟩
def args0 : Array Value := #[.int 1, .int 2, .int 3, .int 4, .int 5]
def aboutOver (below : List Frame) : State where
  vm := { classes := classes, interned := interned.toArray }
  heap := heap
  slotsUsed := slotsUsed
  threads := #[{ frames := .invoking theMethod args0 :: below }]
def below0 : List Frame := [.native { method := ⟨0, 0⟩, args := #[] }]
def about1 : State := aboutOver below0
def p0 : Program := .bare "" "" ""
def e0 : Env := launch0.env 0 0 0
theorem w_frames : about1.frames = Frame.invoking theMethod args0 :: below0 := rfl
set_option maxRecDepth 65536 in
theorem w_args : argsFit about1.vm theMethod args0 = true := by decide +kernel
set_option maxRecDepth 65536 in
theorem w_heap : heapFits about1 = true := by decide +kernel
set_option maxRecDepth 65536 in
theorem w_runnable : about1.curStatus? = some .runnable := by decide +kernel
set_option maxRecDepth 65536 in
theorem w_alone : about1.alone = true := by decide +kernel
set_option maxRecDepth 65536 in
theorem w_named : about1.methodNamed? x = some theMethod := by decide +kernel
set_option maxRecDepth 65536 in
theorem w_hears : about1.hears theMethod below0 = true := by decide +kernel
set_option maxRecDepth 65536 in
theorem w_ripe : about1.ripe theMethod args0 below0 = true := by decide +kernel
theorem w_running : about1.status = .running := rfl
set_option maxRecDepth 65536 in
theorem w_room : about1.hasRoom e0.platform room_1 = true :=
  launch0.hasRoom_least _ room_1 (by decide +kernel) (by decide +kernel) (by decide +kernel) (by decide +kernel) (by decide +kernel) (by decide +kernel)
theorem allAtoms_all (ts : List Jvm.Cond) (a : Array Jvm.Value) (st : Jvm.State) : (allAtoms ts).before a st = ts.all (fun c => c.before a st) := by
  induction ts with
  | nil => rfl
  | cons c t ih =>
    show (Jvm.Cond.and c (allAtoms t)).before a st = _
    rw [Jvm.Cond.before_and, ih, List.all_cons]
def words1 : List Jvm.Cond := Jvm.Cond.code x code maxLocals ret :: tables_1
/-- a 'code' word, met by the world's own term for the bytes: nothing is compared byte by byte -/
theorem code_word {y : MethodName} {bytes : ByteArray} {mx : Nat} {rt : Option FieldType} {a : Array Value} {s : State} {m : MethodId} {meth : Method} {c : Code} (h1 : s.methodNamed? y = some m) (h2 : s.vm.method? m = some meth) (h3 : meth.code = some c) (h4 : c.code = bytes)
    (h5 : (c.maxLocals == mx && c.exceptionTable.isEmpty && decide (c.maxStack ≤ mostOperands) && decide (meth.sig.returnType = rt) && !meth.locks && decide (parseMethodDescriptor y.desc = some meth.sig)) = true) : (Jvm.Cond.code y bytes mx rt).before a s = true := by
  simp only [Bool.and_eq_true, beq_iff_eq, Bool.not_eq_true', decide_eq_true_eq] at h5
  obtain ⟨⟨⟨⟨⟨g1, g2⟩, g3⟩, g4⟩, g5⟩, g6⟩ := h5
  simp [Cond.before, Cond.holds, Cond.value, h1, h2, h3, h4, g1, g2, g3, g4, g5, g6]
def isCode : Jvm.Cond → Bool
  | .code _ _ _ _ => true
  | _ => false
theorem all_split {L : List Jvm.Cond} {P : Jvm.Cond → Bool} (h1 : L.all (fun c => isCode c || P c) = true) (h2 : ∀ c ∈ L.filter isCode, P c = true) : L.all P = true := by
  refine List.all_eq_true.mpr fun c hc => ?_
  have h := List.all_eq_true.mp h1 c hc
  rcases Bool.eq_false_or_eq_true (isCode c) with hi | hi
  · exact h2 c (List.mem_filter.mpr ⟨hc, hi⟩)
  · simpa [hi] using h
set_option maxRecDepth 65536 in
theorem w_c0 : (Jvm.Cond.code x code maxLocals ret).before args0 about1 = true := code_word (m := ⟨1, 1⟩) (meth := k1m1) (c := k1c1) (by decide +kernel) rfl rfl rfl (by decide +kernel)
set_option maxRecDepth 65536 in
theorem w_c1 : (Jvm.Cond.code ({ cls := "com/example/durable_coordinator/durablecoordinator/coordinator/RegexNode$Loop", name := "<init>", desc := "(IIIIZ)V" } : Jvm.MethodName) prog_30_method_1_code (6 : Nat) (Option.none : Option Jvm.ClassFile.FieldType)).before args0 about1 = true := code_word (m := ⟨3, 0⟩) (meth := k3m0) (c := k3c0) (by decide +kernel) rfl rfl rfl (by decide +kernel)
set_option maxRecDepth 65536 in
theorem w_c2 : (Jvm.Cond.code ({ cls := "com/example/durable_coordinator/durablecoordinator/coordinator/RegexNode", name := "<init>", desc := "()V" } : Jvm.MethodName) prog_11_method_1_code (1 : Nat) (Option.none : Option Jvm.ClassFile.FieldType)).before args0 about1 = true := code_word (m := ⟨2, 0⟩) (meth := k2m0) (c := k2c0) (by decide +kernel) rfl rfl rfl (by decide +kernel)
set_option maxRecDepth 65536 in
theorem w_c3 : (Jvm.Cond.code ({ cls := "java/lang/Object", name := "<init>", desc := "()V" } : Jvm.MethodName) object_method_1_code (1 : Nat) (Option.none : Option Jvm.ClassFile.FieldType)).before args0 about1 = true := code_word (m := ⟨0, 0⟩) (meth := k0m0) (c := k0c0) (by decide +kernel) rfl rfl rfl (by decide +kernel)
set_option maxRecDepth 65536 in
theorem w_c4 : (Jvm.Cond.code ({ cls := "com/example/durable_coordinator/durablecoordinator/coordinator/RegexNode$Loop", name := "isGreedyWithoutBound", desc := "()Z" } : Jvm.MethodName) prog_30_method_3_code (1 : Nat) (Option.some Jvm.ClassFile.FieldType.boolean)).before args0 about1 = true := code_word (m := ⟨3, 1⟩) (meth := k3m1) (c := k3c1) (by decide +kernel) rfl rfl rfl (by decide +kernel)
def codes1 : List Jvm.Cond := [Jvm.Cond.code x code maxLocals ret, Jvm.Cond.code ({ cls := "com/example/durable_coordinator/durablecoordinator/coordinator/RegexNode$Loop", name := "<init>", desc := "(IIIIZ)V" } : Jvm.MethodName) prog_30_method_1_code (6 : Nat) (Option.none : Option Jvm.ClassFile.FieldType), Jvm.Cond.code ({ cls := "com/example/durable_coordinator/durablecoordinator/coordinator/RegexNode", name := "<init>", desc := "()V" } : Jvm.MethodName) prog_11_method_1_code (1 : Nat) (Option.none : Option Jvm.ClassFile.FieldType), Jvm.Cond.code ({ cls := "java/lang/Object", name := "<init>", desc := "()V" } : Jvm.MethodName) object_method_1_code (1 : Nat) (Option.none : Option Jvm.ClassFile.FieldType), Jvm.Cond.code ({ cls := "com/example/durable_coordinator/durablecoordinator/coordinator/RegexNode$Loop", name := "isGreedyWithoutBound", desc := "()Z" } : Jvm.MethodName) prog_30_method_3_code (1 : Nat) (Option.some Jvm.ClassFile.FieldType.boolean)]
set_option maxRecDepth 65536 in
theorem codes_eq : words1.filter isCode = codes1 := rfl
theorem w_codes : ∀ c ∈ words1.filter isCode, c.before args0 about1 = true := by
  rw [codes_eq]
  intro c hc
  simp only [codes1, List.mem_cons, List.not_mem_nil, or_false] at hc
  rcases hc with rfl | rfl | rfl | rfl | rfl
  · exact w_c0
  · exact w_c1
  · exact w_c2
  · exact w_c3
  · exact w_c4
set_option maxRecDepth 65536 in
theorem w_t1 : (words1.take 24).all (fun c => isCode c || c.before args0 about1) = true := by decide +kernel
set_option maxRecDepth 65536 in
theorem w_t2 : (words1.drop 24).all (fun c => isCode c || c.before args0 about1) = true := by decide +kernel
theorem w_tables : (allAtoms (Jvm.Cond.code x code maxLocals ret :: tables_1)).before args0 about1 = true := by
  rw [allAtoms_all]
  show words1.all (fun c => c.before args0 about1) = true
  refine all_split ?_ w_codes
  rw [← List.take_append_drop 24 words1, List.all_append, w_t1, w_t2]
  rfl
set_option maxRecDepth 65536 in
theorem w_case : (Jvm.Cond.and given_1 narrow_1).before args0 about1 = true := by decide +kernel
theorem w_applies : (headSpec (Jvm.Cond.code x code maxLocals ret :: tables_1) room_1).applies x e0.platform about1 = true :=
  (Spec.applies_iff w_frames).mpr ⟨w_running, w_runnable, w_alone, w_named, w_hears, w_ripe, w_room, w_tables⟩
theorem atStart : AtStart classFile x code maxLocals ret World_1 tables_1 room_1 Calls_1 rest_1 Pre_1 launch0 p0 e0 about1 theMethod args0 below0 :=
  ⟨lists_1, trivial, launch0.admits_env _ _ _, launch0.least_env, fairChoices_fair.cas, fairChoices_fair.clock, w_frames, w_args, w_heap, w_applies, trivial, trivial, w_case⟩
end start1
theorem witness_1 : WitnessClaimed_1 := ⟨start1.p0, start1.e0, start1.about1, start1.theMethod, start1.args0, start1.below0, start1.atStart⟩
end Jvm.Pilot.@@N@@
