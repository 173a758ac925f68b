import JvmDerived
import JvmDerived.Pilot.@@N@@Statement
import JvmDerived.Pilot.@@N@@Code
set_option linter.unusedVariables false
set_option linter.unusedSimpArgs false
namespace Jvm.OwnKit
open Sem ClassFile Op Lib Jvm.Stand Jvm.Free Jvm.LawKit Jvm.RoadKit
section Core
variable {p : Program} {l : Launch} {e : Env} {R : Room} {s : State} {m : MethodId} {args : Array Value} {below : List Frame} {meth : Method} {c : Code} {T T' : State} {locs : List Loc} {cells slots : Nat} {Z : State} {a0 : Array Value} {h : Heap}
  {Q Q' : Option Value → Heap → List Loc → Prop} {kc ks : Nat} {F : Outcome → State → Prop}
/-- from the frame f over T the body comes to its end, and F holds there -/
def GoG (p : Program) (e : Env) (below : List Frame) (F : Outcome → State → Prop) (T : State) (f : JFrame) : Prop :=
  ∃ t o, Steps p.tables e below (T.setTop f) t ∧ t.status = .running ∧ Ended t below o ∧ F o t
/-- .. Q holds there, and the frame is kept -/
def Fin (s : State) (Q : Option Value → Heap → List Loc → Prop) (kc ks : Nat) : Outcome → State → Prop := fun o t => ∃ v L, o = .returned v ∧ Q v t.heap L ∧ FrameEnd s o t L kc ks
abbrev Go (p : Program) (e : Env) (below : List Frame) (s : State) (Q : Option Value → Heap → List Loc → Prop) (kc ks : Nat) (T : State) (f : JFrame) : Prop := GoG p e below (Fin s Q kc ks) T f
theorem Go.back {f f' : JFrame} (st : ∀ t, Steps p.tables e below (T'.setTop f') t → Steps p.tables e below (T.setTop f) t) (k : GoG p e below F T' f') : GoG p e below F T f := by
  obtain ⟨t, o, h1, h2⟩ := k; exact ⟨t, o, st _ h1, h2⟩
theorem Go.cast {f f' : JFrame} (q : f = f') (k : GoG p e below F T f') : GoG p e below F T f := q ▸ k
theorem Go.imp {f : JFrame} (q : ∀ v h L, Q' v h L → Q v h L) (k : Go p e below s Q' kc ks T f) : Go p e below s Q kc ks T f := by
  obtain ⟨t, o, h1, h2, h3, v, L, h4, h5, h6⟩ := k; exact ⟨t, o, h1, h2, h3, v, L, h4, q _ _ _ h5, h6⟩
theorem Go.done (X : Stand p l e R s m args below meth c T locs cells slots) {v : Option Value} {f0 : JFrame} (hv : meth.sig.returnType = none → v = none) (hlk : meth.locks = false)
    (st : ∀ fs, (∀ (f : JFrame) (acts : List Action), f.method = m → f.locked = none → f.entered = [] → (doReturn e (T.setTop f) acts v).1 = T.setFrames fs) → Steps p.tables e below (T.setTop f0) (T.setFrames fs))
    (hQ : Q v T.heap locs) (hc : cells ≤ kc) (hs : slots ≤ ks) : Go p e below s Q kc ks T f0 := by
  obtain ⟨fs, hr, hrun, hended, hW, hsame⟩ := X.leave (v := v) hv hlk
  exact ⟨_, _, st fs hr, hrun, hended, v, locs, rfl, hQ, ⟨_, rfl⟩, hW, hsame.mono hc hs⟩
theorem Go.retI (X : Stand p l e R s m args below meth c T locs cells slots) (hx : p.tables.exec = Jvm.exec) {pc : Nat} {Ls : Array Slot} {z : Int32} {rest : List Value} (hret : meth.sig.returnType = some .int) (hlk : meth.locks = false) (hd : decode c.code pc = .ok (.ireturn, 1))
    (hQ : Q (some (.int z)) T.heap locs) (hc : cells ≤ kc) (hs : slots ≤ ks) : Go p e below s Q kc ks T (mkF m pc Ls (.int z :: rest)) :=
  Go.done X (fun q => by rw [hret] at q; cases q) hlk (fun _ hl => retOut X hx hret rfl (Or.inl ⟨rfl, Or.inl rfl, z, rfl⟩) hd hl) hQ hc hs
theorem Go.retJ (X : Stand p l e R s m args below meth c T locs cells slots) (hx : p.tables.exec = Jvm.exec) {pc : Nat} {Ls : Array Slot} {z : Int64} {rest : List Value} (hret : meth.sig.returnType = some .long) (hlk : meth.locks = false) (hd : decode c.code pc = .ok (.lreturn, 1))
    (hQ : Q (some (.long z)) T.heap locs) (hc : cells ≤ kc) (hs : slots ≤ ks) : Go p e below s Q kc ks T (mkF m pc Ls (.long z :: rest)) :=
  Go.done X (fun q => by rw [hret] at q; cases q) hlk (fun _ hl => retOut X hx hret rfl (Or.inr (Or.inl ⟨rfl, rfl, z, rfl⟩)) hd hl) hQ hc hs
theorem narrow_ref {t : FieldType} {w : Value} (hw : w.isRef = true) : narrow t w = w := by
  cases w <;> simp [Value.isRef] at hw <;> cases t <;> rfl
theorem Go.retA (X : Stand p l e R s m args below meth c T locs cells slots) (hx : p.tables.exec = Jvm.exec) {pc : Nat} {Ls : Array Slot} {w : Value} {t : FieldType} {rest : List Value} (hret : meth.sig.returnType = some t) (hlk : meth.locks = false) (hd : decode c.code pc = .ok (.areturn, 1)) (ht : t.isReference = true) (hw : w.isRef = true)
    (hQ : Q (some w) T.heap locs) (hc : cells ≤ kc) (hs : slots ≤ ks) : Go p e below s Q kc ks T (mkF m pc Ls (w :: rest)) :=
  Go.done X (fun q => by rw [hret] at q; cases q) hlk (fun _ hl => retOut X hx hret (narrow_ref hw) (Or.inr (Or.inr (Or.inr (Or.inr ⟨rfl, ht, hw⟩)))) hd hl) hQ hc hs
theorem Go.ret0 (X : Stand p l e R s m args below meth c T locs cells slots) (hx : p.tables.exec = Jvm.exec) {pc : Nat} {Ls : Array Slot} (hret : meth.sig.returnType = none) (hlk : meth.locks = false) (hd : decode c.code pc = .ok (.return_, 1))
    (hQ : Q none T.heap locs) (hc : cells ≤ kc) (hs : slots ≤ ks) : Go p e below s Q kc ks T (mkF m pc Ls []) :=
  Go.done X (fun _ => rfl) hlk (fun _ hl => X.returnOut hx hret hd hl) hQ hc hs
theorem Go.retN (X : Stand p l e R s m args below meth c T locs cells slots) (hx : p.tables.exec = Jvm.exec) {pc : Nat} {Ls : Array Slot} {z w : Int32} {t : FieldType} {rest : List Value} (hret : meth.sig.returnType = some t) (ht : t = .boolean ∨ t = .byte ∨ t = .char ∨ t = .short) (hw : nar t z = w) (hlk : meth.locks = false) (hd : decode c.code pc = .ok (.ireturn, 1))
    (hQ : Q (some (.int w)) T.heap locs) (hc : cells ≤ kc) (hs : slots ≤ ks) : Go p e below s Q kc ks T (mkF m pc Ls (.int z :: rest)) :=
  Go.done X (fun q => by rw [hret] at q; cases q) hlk (fun _ hl => Jvm.RoadKit.retN X hx hret ht hd (by rw [hw]; exact hl)) hQ hc hs
theorem nar_bool {z : Int32} (hz : z = 0 ∨ z = 1) : nar .boolean z = z := by rcases hz with rfl | rfl <;> rfl
/-- a body's contract, said of one heap and one array of arguments -/
def Met (l : Launch) (Z : State) (y : MethodName) (bytes : ByteArray) (maxL : Nat) (ret : Option FieldType) (rm : Room) (as' : Array Value) (h : Heap) (Q : Option Value → Heap → List Loc → Prop) : Prop :=
  ∀ ws : List Jvm.Cond, MetFree l y (head1 (Jvm.Cond.code y bytes maxL ret :: ws) rm) (fun a U => a = as' ∧ Z.Warmed39 U.vm ∧ U.heap = h) (fun _ _ _ _ _ => True) (fun _ U o U' => ∃ v L, o = .returned v ∧ Q v U'.heap L ∧ FrameEnd U o U' L rm.cells rm.slots)
variable {y z : MethodName} {bytes : ByteArray} {maxL : Nat} {ret : Option FieldType} {rm : Room} {as' : Array Value}
theorem Met.intro (hp : plainFor y = true) (body : ∀ (p : Program) (e : Env) (s : State) (m : MethodId) (below : List Frame) (meth : Method) (c : Code) (T : State),
      p.tables.exec = Jvm.exec → c.code = bytes → c.maxLocals = maxL → s.vm.findClass y.cls = some m.cls → meth.name = y.name → meth.sig.returnType = ret → meth.locks = false → Z.Warmed39 s.vm →
      Stand p l e rm s m as' below meth c T [] 0 0 → T.heap = h → Go p e below s Q rm.cells rm.slots T (entryFrame m as' maxL)) : Met l Z y bytes maxL ret rm as' h Q := by
  intro ws
  refine MetFree.of_bodySF hp hisR ?_
  intro p e s m args below meth c s₁ Bd hml0 hP hK
  obtain ⟨rfl, hZ, hh⟩ := hP
  exact body p e s m below meth c s₁ Bd.exec Bd.bytes hml0 (findClass_of_methodNamed Bd.named) (name_of_methodNamed Bd.named Bd.method).1 Bd.returns Bd.notSynchronized hZ (Stand.of_body Bd) (by rw [← hh, Bd.state]; rfl)
theorem Met.imp (q : ∀ v h L, Q' v h L → Q v h L) (k : Met l Z y bytes maxL ret rm as' h Q') : Met l Z y bytes maxL ret rm as' h Q := fun ws p e ha hc hk s m args below hf happ hP hK => by
  obtain ⟨n, o, h1, h2, h3, v, L, h4, h5, h6⟩ := k ws p e ha hc hk s m args below hf happ hP hK
  exact ⟨n, o, h1, h2, h3, v, L, h4, q _ _ _ h5, h6⟩
theorem Go.callS (X : Stand p l e R s m args below meth c T locs cells slots) (hx : p.tables.exec = Jvm.exec) (hZ : Z.Warmed39 s.vm) {own : String} {index : Nat} (hown : s.vm.findClass own = some m.cls)
    (w1 : (Jvm.Cond.methodLink own index y).before a0 Z = true) (w2 : (Jvm.Cond.static y).before a0 Z = true) (w3 : (Jvm.Cond.initialized y.cls).before a0 Z = true) (w4 : (Jvm.Cond.code y bytes maxL ret).before a0 Z = true)
    (hy : y.cls ≠ "java/lang/invoke/MethodHandle" ∧ y.cls ≠ "java/lang/invoke/VarHandle") (eT : T.heap = h) {argsL rest st : List Value} (hM : Met l Z y bytes maxL ret rm argsL.toArray h Q')
    (hlen : ∀ sig, parseMethodDescriptor y.desc = some sig → argsL.length = sig.parameters.length) {pc : Nat} {Ls : Array Slot} (hst : st = argsL.reverse ++ rest) (hsz : Ls.size = c.maxLocals) {W : Nat} (hW : 2 * 0 + (rest.map fun v => v.category).sum ≤ W)
    (hd : decode c.code pc = .ok (.invokestatic index, 3)) (hf : rm.frames + 1 ≤ R.frames) (hl : W + (maxL + 11) + rm.locals ≤ R.locals) (hc : cells + rm.cells ≤ R.cells) (hs : slots + rm.slots ≤ R.slots)
    (k : ∀ v T' L, Stand p l e R s m args below meth c T' (locs ++ L) (cells + rm.cells) (slots + rm.slots) → Q' v T'.heap L → GoG p e below F T' (mkF m (pc + 3) Ls (v.toList ++ rest))) :
    GoG p e below F T (mkF m pc Ls st) := by
  subst hst
  obtain ⟨v, _, ⟨T1, L1, k1, n1⟩, -, X1, ⟨Lc, hQ, l1, y1, z1⟩, st1⟩ := Jvm.LawKit.callS X hx (y := y) hown (mvT hZ w1) (mvT hZ w2) (mvT hZ w3) (mvT hZ w4) hy (backOf (W := W) (hM []) hZ w4 w3 hf hl) (g := mkF m pc Ls (argsL.reverse ++ rest)) rfl hsz (argsL := argsL) (rest := rest) hlen rfl hW hd (fun _ _ => ⟨rfl, eT, hc, hs⟩)
  dsimp only [Pt.U, Pt.locs, Pt.cells, Pt.slots] at X1 l1 y1 z1 st1 hQ
  subst l1 y1 z1
  exact Go.back st1 (k v T1 Lc X1 hQ)
theorem Go.callI (X : Stand p l e R s m args below meth c T locs cells slots) (hx : p.tables.exec = Jvm.exec) (hZ : Z.Warmed39 s.vm) {own : String} {index : Nat} (hy1 : y.name = "<init>") (hown : s.vm.findClass own = some m.cls)
    (w1 : (Jvm.Cond.methodLink own index y).before a0 Z = true) (w2 : (Jvm.Cond.instanceMethod y).before a0 Z = true) (w3 : (Jvm.Cond.initialized y.cls).before a0 Z = true) (w4 : (Jvm.Cond.code y bytes maxL none).before a0 Z = true)
    (hy : y.cls ≠ "java/lang/invoke/MethodHandle" ∧ y.cls ≠ "java/lang/invoke/VarHandle") (eT : T.heap = h) {a : Addr} {argsL rest st : List Value} (hM : Met l Z y bytes maxL none rm (.ref a :: argsL).toArray h Q')
    (hlen : ∀ sig, parseMethodDescriptor y.desc = some sig → argsL.length = sig.parameters.length) {pc : Nat} {Ls : Array Slot} (hst : st = argsL.reverse ++ .ref a :: rest) (hsz : Ls.size = c.maxLocals) {W : Nat} (hW : 2 * 0 + (rest.map fun v => v.category).sum ≤ W)
    (hd : decode c.code pc = .ok (.invokespecial index, 3)) (hf : rm.frames + 1 ≤ R.frames) (hl : W + (maxL + 11) + rm.locals ≤ R.locals) (hc : cells + rm.cells ≤ R.cells) (hs : slots + rm.slots ≤ R.slots)
    (k : ∀ v T' L, Stand p l e R s m args below meth c T' (locs ++ L) (cells + rm.cells) (slots + rm.slots) → Q' v T'.heap L → GoG p e below F T' (mkF m (pc + 3) Ls (v.toList ++ rest))) :
    GoG p e below F T (mkF m pc Ls st) := by
  subst hst
  obtain ⟨v, _, ⟨T1, L1, k1, n1⟩, -, X1, ⟨Lc, hQ, l1, y1, z1⟩, st1⟩ := X.specialBack hx (y := y) hy1 hown (mvT hZ w1) (mvT hZ w2) (mvT hZ w4) hy (backOf (W := W) (hM []) hZ w4 w3 hf hl) (g := mkF m pc Ls (argsL.reverse ++ .ref a :: rest)) rfl hsz (Steps.refl _) (a := a) (argsL := argsL) (rest := rest) hlen rfl hW hd (fun _ _ => ⟨rfl, eT, hc, hs⟩)
  dsimp only [Pt.U, Pt.locs, Pt.cells, Pt.slots] at X1 l1 y1 z1 st1 hQ
  subst l1 y1 z1
  exact Go.back (fun _ q => st1.trans q) (k v T1 Lc X1 hQ)
theorem Go.callV (X : Stand p l e R s m args below meth c T locs cells slots) (hx : p.tables.exec = Jvm.exec) (hZ : Z.Warmed39 s.vm) {own C : String} {index : Nat} (hown : s.vm.findClass own = some m.cls)
    (w1 : (Jvm.Cond.methodLink own index y).before a0 Z = true) (w2 : (Jvm.Cond.declares y).before a0 Z = true) (w3 : (Jvm.Cond.selects C y y).before a0 Z = true) (w4 : (Jvm.Cond.instanceMethod y).before a0 Z = true)
    (w5 : (Jvm.Cond.initialized y.cls).before a0 Z = true) (w6 : (Jvm.Cond.code y bytes maxL ret).before a0 Z = true)
    (hy : y.cls ≠ "java/lang/invoke/MethodHandle" ∧ y.cls ≠ "java/lang/invoke/VarHandle") (eT : T.heap = h) {a : Addr} (E : Exa Z h a C) {argsL rest st : List Value} (hM : Met l Z y bytes maxL ret rm (.ref a :: argsL).toArray h Q')
    (hlen : ∀ sig, parseMethodDescriptor y.desc = some sig → argsL.length = sig.parameters.length) {pc : Nat} {Ls : Array Slot} (hst : st = argsL.reverse ++ .ref a :: rest) (hsz : Ls.size = c.maxLocals) {W : Nat} (hW : 2 * 0 + (rest.map fun v => v.category).sum ≤ W)
    (hd : decode c.code pc = .ok (.invokevirtual index, 3)) (hf : rm.frames + 1 ≤ R.frames) (hl : W + (maxL + 11) + rm.locals ≤ R.locals) (hc : cells + rm.cells ≤ R.cells) (hs : slots + rm.slots ≤ R.slots)
    (k : ∀ v T' L, Stand p l e R s m args below meth c T' (locs ++ L) (cells + rm.cells) (slots + rm.slots) → Q' v T'.heap L → GoG p e below F T' (mkF m (pc + 3) Ls (v.toList ++ rest))) :
    GoG p e below F T (mkF m pc Ls st) := by
  subst hst
  obtain ⟨cq, kq, qa, qb, qc⟩ := isOf hZ eT E
  obtain ⟨v, _, ⟨T1, L1, k1, n1⟩, -, X1, ⟨Lc, hQ, l1, y1, z1⟩, st1⟩ := X.virtualBack hx (y := y) (z := y) hown (mvT hZ w1) (mvT hZ w2) (notFace_of_selects (args := #[]) (mvT hZ w3)) (mvT hZ w3) (mvT hZ w4) hy (backOf (W := W) (hM []) hZ w6 w5 hf hl) qa qc (g := mkF m pc Ls (argsL.reverse ++ .ref a :: rest)) rfl hsz (Steps.refl _) (argsL := argsL) (rest := rest) hlen rfl hW hd (fun _ _ => ⟨rfl, eT, hc, hs⟩)
  dsimp only [Pt.U, Pt.locs, Pt.cells, Pt.slots] at X1 l1 y1 z1 st1 hQ
  subst l1 y1 z1
  exact Go.back (fun _ q => st1.trans q) (k v T1 Lc X1 hQ)
end Core
section Cmp
theorem l_lt_t {x y : Int64} (h : x < y) : ifCond.holds .lt (lcmpW x y) = true := (if0 _ _).trans (tlt ((lw_lt x y).mpr h)).1
theorem l_lt_f {x y : Int64} (h : ¬ x < y) : ifCond.holds .lt (lcmpW x y) = false := (if0 _ _).trans (flt (fun q => h ((lw_lt x y).mp q))).1
theorem l_ge_t {x y : Int64} (h : ¬ x < y) : ifCond.holds .ge (lcmpW x y) = true := (if0 _ _).trans (flt (fun q => h ((lw_lt x y).mp q))).2.1
theorem l_ge_f {x y : Int64} (h : x < y) : ifCond.holds .ge (lcmpW x y) = false := (if0 _ _).trans (tlt ((lw_lt x y).mpr h)).2.1
theorem l_gt_t {x y : Int64} (h : y < x) : ifCond.holds .gt (lcmpW x y) = true := (if0 _ _).trans (tlt ((lw_gt x y).mpr h)).2.2.1
theorem l_gt_f {x y : Int64} (h : ¬ y < x) : ifCond.holds .gt (lcmpW x y) = false := (if0 _ _).trans (flt (fun q => h ((lw_gt x y).mp q))).2.2.1
theorem l_le_t {x y : Int64} (h : ¬ y < x) : ifCond.holds .le (lcmpW x y) = true := (if0 _ _).trans (flt (fun q => h ((lw_gt x y).mp q))).2.2.2
theorem l_le_f {x y : Int64} (h : y < x) : ifCond.holds .le (lcmpW x y) = false := (if0 _ _).trans (tlt ((lw_gt x y).mpr h)).2.2.2
theorem l_eq_t {x y : Int64} (h : x = y) : ifCond.holds .eq (lcmpW x y) = true := (if0 _ _).trans (teq ((lw_eq x y).mpr h)).1
theorem l_eq_f {x y : Int64} (h : ¬ x = y) : ifCond.holds .eq (lcmpW x y) = false := (if0 _ _).trans (feq (fun q => h ((lw_eq x y).mp q))).1
theorem l_ne_t {x y : Int64} (h : ¬ x = y) : ifCond.holds .ne (lcmpW x y) = true := (if0 _ _).trans (feq (fun q => h ((lw_eq x y).mp q))).2
theorem l_ne_f {x y : Int64} (h : x = y) : ifCond.holds .ne (lcmpW x y) = false := (if0 _ _).trans (teq ((lw_eq x y).mpr h)).2
end Cmp
end Jvm.OwnKit
namespace Jvm.OwnKit
open Sem ClassFile Op Lib Jvm.Stand Jvm.Free Jvm.LawKit Jvm.RoadKit
section Arrays
variable {p : Program} {l : Launch} {e : Env} {R : Room} {s : State} {m : MethodId} {args : Array Value} {below : List Frame} {meth : Method} {c : Code} {T T' : State} {locs : List Loc} {cells slots : Nat} {Z : State} {a0 : Array Value} {h h' : Heap}
  {F : Outcome → State → Prop} {a b : Addr} {ty : FieldType} {vs vd : List Value} {j x : Int32} {i : Nat} {v : Value} {pc : Nat} {Ls : Array Slot} {rest : List Value}
/-- an array, all of its components told -/
def VArr (Z : State) (h : Heap) (a : Addr) (ty : FieldType) (vs : List Value) : Prop := vs.length < 2147483648 ∧ ∃ k, Arv Z h a k ty vs.length.toInt32 vs (defaultValue ty)
theorem n32 {n : Nat} (q : n < 2147483648) : n.toInt32.toInt = n := len_toInt q
theorem n32c {n : Nat} (q : n < 2147483648) : n.toInt32.toNatClampNeg = n := by simp only [Int32.toNatClampNeg, n32 q]; rfl
theorem idx0 (hi : j.toInt = i) : ¬ j < 0 := by rw [Int32.lt_iff_toInt_lt, hi]; show ¬ (i : Int) < 0; omega
theorem idxN (hi : j.toInt = i) : j.toNatClampNeg = i := by simp only [Int32.toNatClampNeg, hi]; rfl
theorem VArr.lt (A : VArr Z h a ty vs) : a < h.size := by obtain ⟨-, k, A⟩ := A; exact A.lt
theorem VArr.len (A : VArr Z h a ty vs) : vs.length < 2147483648 := A.1
theorem VArr.ext (A : VArr Z h a ty vs) (E : Ext h h') : VArr Z h' a ty vs := by obtain ⟨q, k, A⟩ := A; exact ⟨q, k, A.ext E⟩
theorem VArr.other {sl : Nat} (A : VArr Z h b ty vs) (W : Wr h h' a sl v) (q : b ≠ a) : VArr Z h' b ty vs := by obtain ⟨r, k, A⟩ := A; exact ⟨r, k, A.other W q⟩
theorem VArr.keep {ws : List Addr} (A : VArr Z h a ty vs) (K : Keep h h' ws) (q : a ∉ ws) : VArr Z h' a ty vs := by obtain ⟨r, k, A⟩ := A; exact ⟨r, k, A.keep K q⟩
theorem VArr.to (A : VArr Z h a ty vs) (e : vs = vd) : VArr Z h a ty vd := e ▸ A
theorem VArr.cell (A : VArr Z h a ty vs) : ∃ cl, Arr Z h a cl ty ∧ cl.slots.size = vs.length ∧ Has cl vs (defaultValue ty) := by
  obtain ⟨q, k, cl, A, -, S, N, H, -⟩ := A
  exact ⟨cl, A, by rw [S, n32c q], H⟩
theorem VArr.at (A : VArr Z h a ty vs) (hi : j.toInt = i) (hv : vs[i]? = some v) : ∃ cl, Arr Z h a cl ty ∧ ¬ (j < 0 ∨ cl.slots.size ≤ j.toNatClampNeg) ∧ cl.slots[j.toNatClampNeg]? = some v := by
  obtain ⟨cl, A, S, H⟩ := A.cell
  obtain ⟨hl, e⟩ := List.getElem?_eq_some_iff.mp hv
  refine ⟨cl, A, fun q => ?_, ?_⟩
  · rw [idxN hi, S] at q; exact q.elim (idx0 hi) (by omega)
  · rw [idxN hi, H i (by omega), List.getD_eq_getElem?_getD, hv]; rfl
theorem VArr.exa_ne {C : String} {kk : Nat} (A : VArr Z h a ty vs) (E : Exa Z h b C) (wi : (Jvm.Cond.instantiable C kk).before a0 Z = true) : b ≠ a := by
  obtain ⟨cl, A, -, -⟩ := A.cell; exact ne_arr E wi A
theorem VArr.lenS (A : VArr Z h a ty vs) (X : Stand p l e R s m args below meth c T locs cells slots) (hx : p.tables.exec = Jvm.exec) (hZ : Z.Warmed39 s.vm) (eT : T.heap = h) (hd : decode c.code pc = .ok (.arraylength, 1)) :
    ∀ t, Steps p.tables e below (T.setTop (mkF m (pc + 1) Ls (.int vs.length.toInt32 :: rest))) t → Steps p.tables e below (T.setTop (mkF m pc Ls (.ref a :: rest))) t := by
  obtain ⟨cl, Ar, S, -⟩ := A.cell
  intro t k
  refine X.arraylength hx (by rw [eT]; exact Ar.1) (State.isArrayOf_alike hZ.alike Ar.2.1) (g := mkF m pc Ls (.ref a :: rest)) rfl rfl hd _ ?_
  rw [S]; exact k
theorem VArr.ldI (A : VArr Z h a .int vs) (X : Stand p l e R s m args below meth c T locs cells slots) (hx : p.tables.exec = Jvm.exec) (hZ : Z.Warmed39 s.vm) (eT : T.heap = h) (hd : decode c.code pc = .ok (.iaload, 1)) (hi : j.toInt = i) (hv : vs[i]? = some v) :
    ∀ t, Steps p.tables e below (T.setTop (mkF m (pc + 1) Ls (v :: rest))) t → Steps p.tables e below (T.setTop (mkF m pc Ls (.int j :: .ref a :: rest))) t := by
  obtain ⟨cl, Ar, q, r⟩ := A.at hi hv
  exact fun t k => X.iaload hx (j := j) (v := v) (by rw [eT]; exact Ar.1) (State.isArrayOf_alike hZ.alike Ar.2.1) Ar.2.2 q r (g := mkF m pc Ls (.int j :: .ref a :: rest)) rfl rfl hd _ k
theorem VArr.ldJ (A : VArr Z h a .long vs) (X : Stand p l e R s m args below meth c T locs cells slots) (hx : p.tables.exec = Jvm.exec) (hZ : Z.Warmed39 s.vm) (eT : T.heap = h) (hd : decode c.code pc = .ok (.laload, 1)) (hi : j.toInt = i) (hv : vs[i]? = some v) :
    ∀ t, Steps p.tables e below (T.setTop (mkF m (pc + 1) Ls (v :: rest))) t → Steps p.tables e below (T.setTop (mkF m pc Ls (.int j :: .ref a :: rest))) t := by
  obtain ⟨cl, Ar, q, r⟩ := A.at hi hv
  exact fun t k => X.laload hx (j := j) (v := v) (by rw [eT]; exact Ar.1) (State.isArrayOf_alike hZ.alike Ar.2.1) Ar.2.2 q r (g := mkF m pc Ls (.int j :: .ref a :: rest)) rfl rfl hd _ k
theorem VArr.ldB (A : VArr Z h a .byte vs) (X : Stand p l e R s m args below meth c T locs cells slots) (hx : p.tables.exec = Jvm.exec) (hZ : Z.Warmed39 s.vm) (eT : T.heap = h) (hd : decode c.code pc = .ok (.baload, 1)) (hi : j.toInt = i) (hv : vs[i]? = some v) :
    ∀ t, Steps p.tables e below (T.setTop (mkF m (pc + 1) Ls (v :: rest))) t → Steps p.tables e below (T.setTop (mkF m pc Ls (.int j :: .ref a :: rest))) t := by
  obtain ⟨cl, Ar, q, r⟩ := A.at hi hv
  exact fun t k => X.baloadBytes hx (j := j) (v := v) (by rw [eT]; exact Ar.1) (State.isArrayOf_alike hZ.alike Ar.2.1) Ar.2.2 q r (g := mkF m pc Ls (.int j :: .ref a :: rest)) rfl rfl hd _ k
theorem VArr.fit (A : VArr Z h a ty vs) (hv : vs[i]? = some v) : fits ty v = true := by
  obtain ⟨q, k, cl, A, -, S, N, H, G⟩ := A
  obtain ⟨hl, e⟩ := List.getElem?_eq_some_iff.mp hv
  have := G i (by rw [S, n32c q]; exact hl)
  rw [List.getD_eq_getElem?_getD, hv] at this; exact this
theorem VArr.set (A : VArr Z h a ty vs) (hv : fits ty v = true) (W : Wr h h' a i v) (hl : i < vs.length) : VArr Z h' a ty (vs.set i v) := by
  obtain ⟨q, k, cl, A, q1, S, N, H, G⟩ := A
  have q' : (vs.set i v).length < 2147483648 := by rw [List.length_set]; exact q
  refine ⟨q', k, ?_⟩
  rw [List.length_set]
  exact Arv.set (j := i.toInt32) A q1 S N H G hv (by rw [n32c (by omega)]; exact W) i (n32c (by omega)) hl
theorem VArr.in_ (A : VArr Z h a ty vs) (hi : j.toInt = i) (hl : i < vs.length) : ∃ cl, Arr Z h a cl ty ∧ ¬ (j < 0 ∨ cl.slots.size ≤ j.toNatClampNeg) := by
  obtain ⟨cl, A, S, H⟩ := A.cell
  refine ⟨cl, A, fun q => ?_⟩
  rw [idxN hi, S] at q; exact q.elim (idx0 hi) (by omega)
theorem Go.stI (A : VArr Z h a .int vs) (X : Stand p l e R s m args below meth c T locs cells slots) (hx : p.tables.exec = Jvm.exec) (hZ : Z.Warmed39 s.vm) (eT : T.heap = h) (hd : decode c.code pc = .ok (.iastore, 1)) (hi : j.toInt = i) (hl : i < vs.length)
    (k : ∀ T' h', Stand p l e R s m args below meth c T' (locs ++ [⟨a, i⟩]) cells slots → T'.heap = h' → Wr h h' a i (.int x) → VArr Z h' a .int (vs.set i (.int x)) → GoG p e below F T' (mkF m (pc + 1) Ls rest)) :
    GoG p e below F T (mkF m pc Ls (.int x :: .int j :: .ref a :: rest)) := by
  obtain ⟨cl, Ar, q⟩ := A.in_ hi hl
  obtain ⟨T', h', X', e', W, st⟩ := Jvm.RoadKit.stI X hx hZ eT Ar (j := j) (x := x) q (g := mkF m pc Ls (.int x :: .int j :: .ref a :: rest)) rfl rfl hd
  rw [idxN hi] at X' W
  exact Go.back st (k T' h' X' e' W (A.set rfl W hl))
theorem Go.stJ {x : Int64} (A : VArr Z h a .long vs) (X : Stand p l e R s m args below meth c T locs cells slots) (hx : p.tables.exec = Jvm.exec) (hZ : Z.Warmed39 s.vm) (eT : T.heap = h) (hd : decode c.code pc = .ok (.lastore, 1)) (hi : j.toInt = i) (hl : i < vs.length)
    (k : ∀ T' h', Stand p l e R s m args below meth c T' (locs ++ [⟨a, i⟩]) cells slots → T'.heap = h' → Wr h h' a i (.long x) → VArr Z h' a .long (vs.set i (.long x)) → GoG p e below F T' (mkF m (pc + 1) Ls rest)) :
    GoG p e below F T (mkF m pc Ls (.long x :: .int j :: .ref a :: rest)) := by
  obtain ⟨cl, Ar, q⟩ := A.in_ hi hl
  obtain ⟨T', h', X', e', W, st⟩ := Jvm.RoadKit.stJ X hx hZ eT Ar (j := j) (x := x) q (g := mkF m pc Ls (.long x :: .int j :: .ref a :: rest)) rfl rfl hd
  rw [idxN hi] at X' W
  exact Go.back st (k T' h' X' e' W (A.set rfl W hl))
theorem Go.stB (A : VArr Z h a .byte vs) (X : Stand p l e R s m args below meth c T locs cells slots) (hx : p.tables.exec = Jvm.exec) (hZ : Z.Warmed39 s.vm) (eT : T.heap = h) (hd : decode c.code pc = .ok (.bastore, 1)) (hi : j.toInt = i) (hl : i < vs.length)
    (k : ∀ T' h', Stand p l e R s m args below meth c T' (locs ++ [⟨a, i⟩]) cells slots → T'.heap = h' → Wr h h' a i (.int (nar .byte x)) → VArr Z h' a .byte (vs.set i (.int (nar .byte x))) → GoG p e below F T' (mkF m (pc + 1) Ls rest)) :
    GoG p e below F T (mkF m pc Ls (.int x :: .int j :: .ref a :: rest)) := by
  obtain ⟨cl, Ar, q⟩ := A.in_ hi hl
  obtain ⟨T', h', X', e', W, st⟩ := Jvm.RoadKit.stB X hx hZ eT Ar (j := j) (x := x) q (g := mkF m pc Ls (.int x :: .int j :: .ref a :: rest)) rfl rfl hd
  rw [idxN hi] at X' W
  exact Go.back st (k T' h' X' e' W (A.set (fits_nar_byte x) W hl))
theorem VArr.new {k : ClassId} {n : Int32} (A : Arr Z h a (newA k ty n) ty) (hi : n.toInt = i) : VArr Z h a ty (List.replicate i (defaultValue ty)) := by
  have hl : i < 2147483648 := by have := n.toInt_lt; omega
  have e : i.toInt32 = n := Int32.toInt_inj.mp (by rw [n32 hl, hi])
  refine ⟨by simpa using hl, k, ?_⟩
  rw [List.length_replicate, e]
  exact (Arv.new A (idx0 hi)).pad fun q => by have := pad_rep [] (defaultValue ty) i q; simpa using this
theorem Go.newA {aty : ArrayType} {n : Int32} {cap : Nat} (X : Stand p l e R s m args below meth c T locs cells slots) (hx : p.tables.exec = Jvm.exec) (hZ : Z.Warmed39 s.vm) (w : (Jvm.Cond.arrayClass (newarray.typeOf aty)).before a0 Z = true) (eT : T.heap = h) (hd : decode c.code pc = .ok (.newarray aty, 2))
    (hi : n.toInt = i) (hcap : i ≤ cap) (hb : cap * 8 ≤ 536870912) (hc : cells + 1 ≤ R.cells) (hl : slots + cap ≤ R.slots)
    (k : ∀ T' h' a, a = h.size → Stand p l e R s m args below meth c T' locs (cells + 1) (slots + cap) → T'.heap = h' → Ext h h' → VArr Z h' a (newarray.typeOf aty) (List.replicate i (defaultValue (newarray.typeOf aty))) → GoG p e below F T' (mkF m (pc + 2) Ls (.ref a :: rest))) :
    GoG p e below F T (mkF m pc Ls (.int n :: rest)) := by
  obtain ⟨T', h', cA, X', e', E, A, st⟩ := newP X hx hZ w eT (g := mkF m pc Ls (.int n :: rest)) rfl hd rfl (idx0 hi) (cap := cap) (by rw [idxN hi]; exact hcap) hb hc hl
  exact Go.back st (k T' h' _ rfl X' e' E (VArr.new A hi))
theorem Go.newAE {aty : ArrayType} {n : Int32} {cap : Nat} {ad : String} (had : "[" ++ (newarray.typeOf aty).toString = ad) (X : Stand p l e R s m args below meth c T locs cells slots) (hx : p.tables.exec = Jvm.exec) (hZ : Z.Warmed39 s.vm) (w : (Jvm.Cond.arrayClass (newarray.typeOf aty)).before a0 Z = true) (eT : T.heap = h) (hd : decode c.code pc = .ok (.newarray aty, 2))
    (hi : n.toInt = i) (hcap : i ≤ cap) (hb : cap * 8 ≤ 536870912) (hc : cells + 1 ≤ R.cells) (hl : slots + cap ≤ R.slots)
    (k : ∀ T' h' a, a = h.size → Stand p l e R s m args below meth c T' locs (cells + 1) (slots + cap) → T'.heap = h' → Ext h h' → VArr Z h' a (newarray.typeOf aty) (List.replicate i (defaultValue (newarray.typeOf aty))) → Exa Z h' a ad → GoG p e below F T' (mkF m (pc + 2) Ls (.ref a :: rest))) :
    GoG p e below F T (mkF m pc Ls (.int n :: rest)) := by
  obtain ⟨T', h', cA, X', e', E, A, B, st⟩ := newPE X hx hZ w eT (g := mkF m pc Ls (.int n :: rest)) rfl hd rfl (idx0 hi) (cap := cap) (by rw [idxN hi]; exact hcap) hb hc hl had
  exact Go.back st (k T' h' _ rfl X' e' E (VArr.new A hi) B)
theorem stretch (vs : List Value) (dv : Value) (i n : Nat) (q : i + n ≤ vs.length) : (vs.drop i).take n = (List.range n).map fun z => vs.getD (i + z) dv := by
  apply List.ext_getElem
  · simp; omega
  · intro k h1 h2
    simp at h1 h2 ⊢
    rw [List.getElem?_eq_getElem (by omega)]; rfl
theorem Go.cpy {own : String} {index n0 n : Nat} {sp dp nn : Int32} {j' : Nat} (X : Stand p l e R s m args below meth c T locs cells slots) (hx : p.tables.exec = Jvm.exec) (hZ : Z.Warmed39 s.vm) (hown : s.vm.findClass own = some m.cls)
    (w1 : (Jvm.Cond.methodLink own index Jvm.Stand.acN).before a0 Z = true) (w2 : (Jvm.Cond.native Jvm.Stand.acN).before a0 Z = true) (w3 : (Jvm.Cond.static Jvm.Stand.acN).before a0 Z = true) (w4 : (Jvm.Cond.initialized "java/lang/System").before a0 Z = true) (eT : T.heap = h)
    (A : VArr Z h a ty vs) (B : VArr Z h b ty vd) (hty : refKind ty = false) (hi : sp.toInt = i) (hj : dp.toInt = j') (hn : nn.toInt = n) (b1 : i + n ≤ vs.length) (b2 : j' + n ≤ vd.length) (N : Fr n0 locs) (ge : n0 ≤ b)
    (hsz : Ls.size = c.maxLocals) (hd : decode c.code pc = .ok (.invokestatic index, 3)) (hf : 1 ≤ R.frames) {W : Nat} (hW : 2 * 0 + (rest.map fun v => v.category).sum ≤ W) (hlo : W + (nativeFrameWords "java/lang/System" "arraycopy" 5 + 11) ≤ R.locals)
    (k : ∀ T' h' L, Stand p l e R s m args below meth c T' L cells slots → T'.heap = h' → Fr n0 L → Keep h h' [b] → VArr Z h' b ty (vd.take j' ++ (vs.drop i).take n ++ vd.drop (j' + n)) → GoG p e below F T' (mkF m (pc + 3) Ls rest)) :
    GoG p e below F T (mkF m pc Ls (.int nn :: .int dp :: .ref b :: .int sp :: .ref a :: rest)) := by
  obtain ⟨q1, k1, A1⟩ := A
  obtain ⟨q2, k2, B1⟩ := B
  obtain ⟨T', h', L, X', e', N', K, V, st⟩ := cpA X hx hZ hown w1 w2 w3 w4 eT A1 B1 (us := (vs.drop i).take n) (Or.inl ⟨rfl, hty⟩) (sp := sp) (dp := dp) (nn := nn) (idx0 hi) (idx0 hj) (idx0 hn) (by rw [idxN hi, idxN hn, n32c q1]; exact b1) (by rw [idxN hj, idxN hn, n32c q2]; exact b2) (by rw [idxN hi, idxN hn]; exact stretch vs _ i n b1) (by rw [idxN hj, idxN hn]; exact b2) N ge (g := mkF m pc Ls (.int nn :: .int dp :: .ref b :: .int sp :: .ref a :: rest)) rfl hsz rfl hd hf (W := W) hW hlo
  rw [idxN hj, idxN hn] at V
  refine Go.back st (k T' h' L X' e' N' K ?_)
  have el : (vd.take j' ++ (vs.drop i).take n ++ vd.drop (j' + n)).length = vd.length := by simp; omega
  exact ⟨by rw [el]; exact q2, k2, by rw [el]; exact V⟩
end Arrays
end Jvm.OwnKit
namespace Jvm.OwnKit
open Sem ClassFile Op Lib Jvm.Stand Jvm.Free Jvm.LawKit Jvm.RoadKit
theorem VArr.ofArv {Z : State} {h : Heap} {a : Addr} {k : ClassId} {z : Int32} {vs : List Value} (A : Arv Z h a k .byte z vs (.int 0)) (hl : z.toNatClampNeg = vs.length) : VArr Z h a .byte vs := by
  have hz : ¬ z < 0 := by obtain ⟨c, -, -, -, q, -⟩ := A; exact q
  have q := back32 hz
  rw [hl] at q
  exact ⟨q.2, k, by rw [q.1]; exact A⟩
end Jvm.OwnKit
namespace Jvm.OwnKit
open Sem ClassFile Op Lib Jvm.Stand Jvm.Free Jvm.LawKit Jvm.RoadKit
section Change
variable {Z : State} {n0 : Nat} {h0 h h' : Heap} {ws ws' : List Addr} {L L' : List Loc} {a b : Addr} {sl : Nat} {v : Value}
/-- what a walk has changed since h0: cells at ws, and new ones; no place below n0 -/
def Chg (n0 : Nat) (h0 h : Heap) (ws : List Addr) (L : List Loc) : Prop := n0 ≤ h0.size ∧ Keep h0 h ws ∧ Fr n0 L
theorem Chg.refl (q : n0 ≤ h0.size) : Chg n0 h0 h0 ws [] := ⟨q, Keep.refl _ _, Fr.nil _⟩
theorem Chg.keep (C : Chg n0 h0 h ws L) : Keep h0 h ws := C.2.1
theorem Chg.fr (C : Chg n0 h0 h ws L) : Fr n0 L := C.2.2
theorem Chg.size (C : Chg n0 h0 h ws L) : n0 ≤ h.size := Nat.le_trans C.1 C.2.1.1
theorem Chg.grow (C : Chg n0 h0 h ws L) : h0.size ≤ h.size := C.2.1.1
theorem Chg.at (C : Chg n0 h0 h ws L) (q : a = h.size) : h0.size ≤ a := q ▸ C.grow
theorem Chg.ge (C : Chg n0 h0 h ws L) (q : h0.size ≤ a) : n0 ≤ a := Nat.le_trans C.1 q
theorem Chg.ext (C : Chg n0 h0 h ws L) (E : Ext h h') : Chg n0 h0 h' ws L := ⟨C.1, C.2.1.ext E, C.2.2⟩
theorem Chg.wr (C : Chg n0 h0 h ws L) (W : Wr h h' a sl v) (q : a ∈ ws ∨ h0.size ≤ a) (g : n0 ≤ a) : Chg n0 h0 h' ws (L ++ [⟨a, sl⟩]) := ⟨C.1, C.2.1.wr W q, C.2.2.app fun y hy => by cases List.mem_singleton.mp hy; exact g⟩
theorem Chg.wrN (C : Chg n0 h0 h ws L) (W : Wr h h' a sl v) (q : a ∈ ws ∨ h0.size ≤ a) (N : Fr n0 L') : Chg n0 h0 h' ws (L ++ L') := ⟨C.1, C.2.1.wr W q, C.2.2.app N⟩
theorem Chg.call (C : Chg n0 h0 h ws L) (C' : Chg n0 h h' ws' L') (q : ∀ x ∈ ws', x ∈ ws ∨ h0.size ≤ x) : Chg n0 h0 h' ws (L ++ L') := ⟨C.1, C.2.1.trans C'.2.1 q, C.2.2.app C'.2.2⟩
theorem Chg.cpy (C : Chg n0 h0 h ws L) (K : Keep h h' [b]) (N : Fr n0 L') (q : b ∈ ws ∨ h0.size ≤ b) : Chg n0 h0 h' ws L' := ⟨C.1, C.2.1.trans K (allS q all0), N⟩
theorem Chg.pure (C : Chg n0 h0 h ws L) (N : Fr n0 L') (e : h' = h) : Chg n0 h0 h' ws (L ++ L') := by subst e; exact ⟨C.1, C.2.1, C.2.2.app N⟩
theorem Chg.sub (C : Chg n0 h0 h ws L) (q : ∀ x ∈ ws, x ∈ ws') : Chg n0 h0 h ws' L := ⟨C.1, (Keep.refl h0 ws').trans C.2.1 (fun x hx => Or.inl (q x hx)), C.2.2⟩
theorem lt_ne {F : Nat} (q : b = F) (r : a < F) : a ≠ b := Nat.ne_of_lt (q ▸ r)
theorem Chg.base (C : Chg n0 h0 h ws L) : Chg n0 h h ws' L := ⟨C.size, Keep.refl _ _, C.fr⟩
/-- no class's statics lie at x -/
def NS (h : Heap) (x : Addr) : Prop := ∀ cl : Cell, h[x]? = some cl → cl.vm.isStatics = false
theorem own_exaNS {K : String} (E : Exa Z h a K) : NS h a := fun cl q => by obtain ⟨c, k, h1, -, -, h4, -⟩ := E; cases h1.symm.trans q; exact h4
theorem own_ns0 : ∀ x ∈ ([] : List Addr), NS h x := fun _ q => by cases q
theorem own_nsS (q : NS h a) (r : ∀ x ∈ ws, NS h x) : ∀ x ∈ a :: ws, NS h x := fun x hx => by
  rcases List.mem_cons.mp hx with rfl | q'
  · exact q
  · exact r x q'
theorem staKeep {K n d : String} (S : Sta Z h K n d v) (k : Keep h h' ws) (q : ∀ x ∈ ws, NS h x) : Sta Z h' K n d v := by
  obtain ⟨cf, i, kk, f, st, cell, h1, h2, h3, h4, h5, h6, h7⟩ := S
  exact ⟨cf, i, kk, f, st, cell, h1, h2, h3, h4, k.2.1 _ _ h5 (fun hm => by have := q _ hm _ h5; rw [h6] at this; cases this), h6, h7⟩
end Change
end Jvm.OwnKit
namespace Jvm.Pilot.@@N@@
open Jvm Jvm.ClassFile Sem Op Lib Jvm.Free Jvm.Stand Jvm.LawKit Jvm.RoadKit Bundle Jvm.OwnKit Jvm.Pilot.@@N@@.Jvm.D
theorem d1_0 : decode prog_51_method_1_code 0 = .ok (.aload_n 0, 1) := by decide +kernel
theorem d1_1 : decode prog_51_method_1_code 1 = .ok (.invokespecial 1, 3) := by decide +kernel
theorem d1_4 : decode prog_51_method_1_code 4 = .ok (.aload_n 0, 1) := by decide +kernel
theorem d1_5 : decode prog_51_method_1_code 5 = .ok (.iconst 1, 1) := by decide +kernel
theorem d1_6 : decode prog_51_method_1_code 6 = .ok (.putfield 7, 3) := by decide +kernel
theorem d1_9 : decode prog_51_method_1_code 9 = .ok (.aload_n 0, 1) := by decide +kernel
theorem d1_10 : decode prog_51_method_1_code 10 = .ok (.iload_n 1, 1) := by decide +kernel
theorem d1_11 : decode prog_51_method_1_code 11 = .ok (.newarray .int, 2) := by decide +kernel
theorem d1_13 : decode prog_51_method_1_code 13 = .ok (.putfield 13, 3) := by decide +kernel
theorem d1_16 : decode prog_51_method_1_code 16 = .ok (.return_, 1) := by decide +kernel
theorem d3_0 : decode prog_51_method_2_code 0 = .ok (.iload_n 1, 1) := by decide +kernel
theorem d3_1 : decode prog_51_method_2_code 1 = .ok (.aload_n 0, 1) := by decide +kernel
theorem d3_2 : decode prog_51_method_2_code 2 = .ok (.getfield 13, 3) := by decide +kernel
theorem d3_5 : decode prog_51_method_2_code 5 = .ok (.arraylength, 1) := by decide +kernel
theorem d3_6 : decode prog_51_method_2_code 6 = .ok (.if_icmp .lt 27, 3) := by decide +kernel
theorem d3_9 : decode prog_51_method_2_code 9 = .ok (.aload_n 0, 1) := by decide +kernel
theorem d3_10 : decode prog_51_method_2_code 10 = .ok (.aload_n 0, 1) := by decide +kernel
theorem d3_11 : decode prog_51_method_2_code 11 = .ok (.getfield 13, 3) := by decide +kernel
theorem d3_14 : decode prog_51_method_2_code 14 = .ok (.iconst 2, 1) := by decide +kernel
theorem d3_15 : decode prog_51_method_2_code 15 = .ok (.aload_n 0, 1) := by decide +kernel
theorem d3_16 : decode prog_51_method_2_code 16 = .ok (.getfield 13, 3) := by decide +kernel
theorem d3_19 : decode prog_51_method_2_code 19 = .ok (.arraylength, 1) := by decide +kernel
theorem d3_20 : decode prog_51_method_2_code 20 = .ok (.imul, 1) := by decide +kernel
theorem d3_21 : decode prog_51_method_2_code 21 = .ok (.iload_n 1, 1) := by decide +kernel
theorem d3_22 : decode prog_51_method_2_code 22 = .ok (.iconst 1, 1) := by decide +kernel
theorem d3_23 : decode prog_51_method_2_code 23 = .ok (.iadd, 1) := by decide +kernel
theorem d3_24 : decode prog_51_method_2_code 24 = .ok (.invokestatic 17, 3) := by decide +kernel
theorem d3_27 : decode prog_51_method_2_code 27 = .ok (.invokestatic 23, 3) := by decide +kernel
theorem d3_30 : decode prog_51_method_2_code 30 = .ok (.putfield 13, 3) := by decide +kernel
theorem d3_33 : decode prog_51_method_2_code 33 = .ok (.aload_n 0, 1) := by decide +kernel
theorem d3_34 : decode prog_51_method_2_code 34 = .ok (.getfield 13, 3) := by decide +kernel
theorem d3_37 : decode prog_51_method_2_code 37 = .ok (.iload_n 1, 1) := by decide +kernel
theorem d3_38 : decode prog_51_method_2_code 38 = .ok (.aload_n 0, 1) := by decide +kernel
theorem d3_39 : decode prog_51_method_2_code 39 = .ok (.getfield 7, 3) := by decide +kernel
theorem d3_42 : decode prog_51_method_2_code 42 = .ok (.iastore, 1) := by decide +kernel
theorem d3_43 : decode prog_51_method_2_code 43 = .ok (.return_, 1) := by decide +kernel
theorem d4_0 : decode jdk_29_method_65_code 0 = .ok (.iload_n 0, 1) := by decide +kernel
theorem d4_1 : decode jdk_29_method_65_code 1 = .ok (.iload_n 1, 1) := by decide +kernel
theorem d4_2 : decode jdk_29_method_65_code 2 = .ok (.if_icmp .lt 7, 3) := by decide +kernel
theorem d4_5 : decode jdk_29_method_65_code 5 = .ok (.iload_n 0, 1) := by decide +kernel
theorem d4_6 : decode jdk_29_method_65_code 6 = .ok (.goto 4, 3) := by decide +kernel
theorem d4_9 : decode jdk_29_method_65_code 9 = .ok (.iload_n 1, 1) := by decide +kernel
theorem d4_10 : decode jdk_29_method_65_code 10 = .ok (.ireturn, 1) := by decide +kernel
theorem d5_0 : decode jdk_65_method_123_code 0 = .ok (.iload_n 1, 1) := by decide +kernel
theorem d5_1 : decode jdk_65_method_123_code 1 = .ok (.aload_n 0, 1) := by decide +kernel
theorem d5_2 : decode jdk_65_method_123_code 2 = .ok (.arraylength, 1) := by decide +kernel
theorem d5_3 : decode jdk_65_method_123_code 3 = .ok (.if_icmp .ne 11, 3) := by decide +kernel
theorem d5_6 : decode jdk_65_method_123_code 6 = .ok (.aload_n 0, 1) := by decide +kernel
theorem d5_7 : decode jdk_65_method_123_code 7 = .ok (.invokevirtual 316, 3) := by decide +kernel
theorem d5_10 : decode jdk_65_method_123_code 10 = .ok (.checkcast 317, 3) := by decide +kernel
theorem d5_13 : decode jdk_65_method_123_code 13 = .ok (.areturn, 1) := by decide +kernel
theorem d5_14 : decode jdk_65_method_123_code 14 = .ok (.iload_n 1, 1) := by decide +kernel
theorem d5_15 : decode jdk_65_method_123_code 15 = .ok (.newarray .int, 2) := by decide +kernel
theorem d5_17 : decode jdk_65_method_123_code 17 = .ok (.astore_n 2, 1) := by decide +kernel
theorem d5_18 : decode jdk_65_method_123_code 18 = .ok (.aload_n 0, 1) := by decide +kernel
theorem d5_19 : decode jdk_65_method_123_code 19 = .ok (.iconst 0, 1) := by decide +kernel
theorem d5_20 : decode jdk_65_method_123_code 20 = .ok (.aload_n 2, 1) := by decide +kernel
theorem d5_21 : decode jdk_65_method_123_code 21 = .ok (.iconst 0, 1) := by decide +kernel
theorem d5_22 : decode jdk_65_method_123_code 22 = .ok (.aload_n 0, 1) := by decide +kernel
theorem d5_23 : decode jdk_65_method_123_code 23 = .ok (.arraylength, 1) := by decide +kernel
theorem d5_24 : decode jdk_65_method_123_code 24 = .ok (.iload_n 1, 1) := by decide +kernel
theorem d5_25 : decode jdk_65_method_123_code 25 = .ok (.invokestatic 304, 3) := by decide +kernel
theorem d5_28 : decode jdk_65_method_123_code 28 = .ok (.invokestatic 150, 3) := by decide +kernel
theorem d5_31 : decode jdk_65_method_123_code 31 = .ok (.aload_n 2, 1) := by decide +kernel
theorem d5_32 : decode jdk_65_method_123_code 32 = .ok (.areturn, 1) := by decide +kernel
theorem d6_0 : decode jdk_29_method_69_code 0 = .ok (.iload_n 0, 1) := by decide +kernel
theorem d6_1 : decode jdk_29_method_69_code 1 = .ok (.iload_n 1, 1) := by decide +kernel
theorem d6_2 : decode jdk_29_method_69_code 2 = .ok (.if_icmp .gt 7, 3) := by decide +kernel
theorem d6_5 : decode jdk_29_method_69_code 5 = .ok (.iload_n 0, 1) := by decide +kernel
theorem d6_6 : decode jdk_29_method_69_code 6 = .ok (.goto 4, 3) := by decide +kernel
theorem d6_9 : decode jdk_29_method_69_code 9 = .ok (.iload_n 1, 1) := by decide +kernel
theorem d6_10 : decode jdk_29_method_69_code 10 = .ok (.ireturn, 1) := by decide +kernel
theorem d7_0 : decode prog_51_method_5_code 0 = .ok (.aload_n 0, 1) := by decide +kernel
theorem d7_1 : decode prog_51_method_5_code 1 = .ok (.dup, 1) := by decide +kernel
theorem d7_2 : decode prog_51_method_5_code 2 = .ok (.getfield 7, 3) := by decide +kernel
theorem d7_5 : decode prog_51_method_5_code 5 = .ok (.iconst 1, 1) := by decide +kernel
theorem d7_6 : decode prog_51_method_5_code 6 = .ok (.iadd, 1) := by decide +kernel
theorem d7_7 : decode prog_51_method_5_code 7 = .ok (.putfield 7, 3) := by decide +kernel
theorem d7_10 : decode prog_51_method_5_code 10 = .ok (.aload_n 0, 1) := by decide +kernel
theorem d7_11 : decode prog_51_method_5_code 11 = .ok (.getfield 7, 3) := by decide +kernel
theorem d7_14 : decode prog_51_method_5_code 14 = .ok (.ldc 31, 2) := by decide +kernel
theorem d7_16 : decode prog_51_method_5_code 16 = .ok (.if_icmp .ne 16, 3) := by decide +kernel
theorem d7_19 : decode prog_51_method_5_code 19 = .ok (.aload_n 0, 1) := by decide +kernel
theorem d7_20 : decode prog_51_method_5_code 20 = .ok (.getfield 13, 3) := by decide +kernel
theorem d7_23 : decode prog_51_method_5_code 23 = .ok (.iconst 0, 1) := by decide +kernel
theorem d7_24 : decode prog_51_method_5_code 24 = .ok (.invokestatic 32, 3) := by decide +kernel
theorem d7_27 : decode prog_51_method_5_code 27 = .ok (.aload_n 0, 1) := by decide +kernel
theorem d7_28 : decode prog_51_method_5_code 28 = .ok (.iconst 1, 1) := by decide +kernel
theorem d7_29 : decode prog_51_method_5_code 29 = .ok (.putfield 7, 3) := by decide +kernel
theorem d7_32 : decode prog_51_method_5_code 32 = .ok (.return_, 1) := by decide +kernel
theorem d8_0 : decode prog_51_method_4_code 0 = .ok (.iload_n 1, 1) := by decide +kernel
theorem d8_1 : decode prog_51_method_4_code 1 = .ok (.aload_n 0, 1) := by decide +kernel
theorem d8_2 : decode prog_51_method_4_code 2 = .ok (.getfield 13, 3) := by decide +kernel
theorem d8_5 : decode prog_51_method_4_code 5 = .ok (.arraylength, 1) := by decide +kernel
theorem d8_6 : decode prog_51_method_4_code 6 = .ok (.if_icmp .ge 20, 3) := by decide +kernel
theorem d8_9 : decode prog_51_method_4_code 9 = .ok (.aload_n 0, 1) := by decide +kernel
theorem d8_10 : decode prog_51_method_4_code 10 = .ok (.getfield 13, 3) := by decide +kernel
theorem d8_13 : decode prog_51_method_4_code 13 = .ok (.iload_n 1, 1) := by decide +kernel
theorem d8_14 : decode prog_51_method_4_code 14 = .ok (.iaload, 1) := by decide +kernel
theorem d8_15 : decode prog_51_method_4_code 15 = .ok (.aload_n 0, 1) := by decide +kernel
theorem d8_16 : decode prog_51_method_4_code 16 = .ok (.getfield 7, 3) := by decide +kernel
theorem d8_19 : decode prog_51_method_4_code 19 = .ok (.if_icmp .ne 7, 3) := by decide +kernel
theorem d8_22 : decode prog_51_method_4_code 22 = .ok (.iconst 1, 1) := by decide +kernel
theorem d8_23 : decode prog_51_method_4_code 23 = .ok (.goto 4, 3) := by decide +kernel
theorem d8_26 : decode prog_51_method_4_code 26 = .ok (.iconst 0, 1) := by decide +kernel
theorem d8_27 : decode prog_51_method_4_code 27 = .ok (.ireturn, 1) := by decide +kernel
theorem d9_0 : decode prog_51_method_3_code 0 = .ok (.iload_n 1, 1) := by decide +kernel
theorem d9_1 : decode prog_51_method_3_code 1 = .ok (.aload_n 0, 1) := by decide +kernel
theorem d9_2 : decode prog_51_method_3_code 2 = .ok (.getfield 13, 3) := by decide +kernel
theorem d9_5 : decode prog_51_method_3_code 5 = .ok (.arraylength, 1) := by decide +kernel
theorem d9_6 : decode prog_51_method_3_code 6 = .ok (.if_icmp .ge 10, 3) := by decide +kernel
theorem d9_9 : decode prog_51_method_3_code 9 = .ok (.aload_n 0, 1) := by decide +kernel
theorem d9_10 : decode prog_51_method_3_code 10 = .ok (.getfield 13, 3) := by decide +kernel
theorem d9_13 : decode prog_51_method_3_code 13 = .ok (.iload_n 1, 1) := by decide +kernel
theorem d9_14 : decode prog_51_method_3_code 14 = .ok (.iconst 0, 1) := by decide +kernel
theorem d9_15 : decode prog_51_method_3_code 15 = .ok (.iastore, 1) := by decide +kernel
theorem d9_16 : decode prog_51_method_3_code 16 = .ok (.return_, 1) := by decide +kernel
theorem pd_0 : parseMethodDescriptor "(II)I" = some ⟨[.int, .int], some .int⟩ := by decide +kernel
theorem pd_1 : parseMethodDescriptor "([II)[I" = some ⟨[(.array .int), .int], some (.array .int)⟩ := by decide +kernel
theorem pd_2 : parseMethodDescriptor "(I)V" = some ⟨[.int], none⟩ := by decide +kernel
theorem pd_3 : parseMethodDescriptor "()V" = some ⟨[], none⟩ := by decide +kernel
theorem pd_4 : parseMethodDescriptor "(I)Z" = some ⟨[.int], some .boolean⟩ := by decide +kernel

/-- a Marks object: its stamp, its array -/
def MR (Z : State) (h : Heap) (mo arr : Addr) (st : Int32) (is : List Int32) : Prop := Exa Z h mo "com/example/mu_tableau/mutableau/engine/Marks" ∧ Fld Z h mo "com/example/mu_tableau/mutableau/engine/Marks" "stamp" "I" (.int st) ∧ Fld Z h mo "com/example/mu_tableau/mutableau/engine/Marks" "markedAt" "[I" (.ref arr) ∧ VArr Z h arr .int (is.map Value.int)
def addL (is : List Int32) (i : Nat) (st : Int32) : List Int32 := if i < is.length then is.set i st else (is ++ List.replicate (max (2 * is.length) (i + 1) - is.length) 0).set i st
theorem addL_in {is : List Int32} {i : Nat} (st : Int32) (q : i < is.length) : addL is i st = is.set i st := if_pos q
theorem addL_out {is : List Int32} {i : Nat} (st : Int32) (q : ¬ i < is.length) : addL is i st = (is ++ List.replicate (max (2 * is.length) (i + 1) - is.length) 0).set i st := if_neg q
theorem addL_len {is : List Int32} {i : Nat} (st : Int32) (q : i < 16) (r : is.length ≤ 30) : (addL is i st).length ≤ 30 := by
  unfold addL; split
  · simpa using r
  · simp; omega
theorem addL_le {is : List Int32} {i : Nat} {st : Int32} (q : 0 ≤ st.toInt) (r : ∀ v ∈ is, v.toInt ≤ st.toInt) : ∀ v ∈ addL is i st, v.toInt ≤ st.toInt := by
  intro v hv
  have e0 : (0 : Int32).toInt = 0 := rfl
  unfold addL at hv; split at hv
  · rcases List.mem_or_eq_of_mem_set hv with h | rfl
    · exact r v h
    · omega
  · rcases List.mem_or_eq_of_mem_set hv with h | rfl
    · rcases List.mem_append.mp h with h | h
      · exact r v h
      · rw [(List.mem_replicate.mp h).2, e0]; exact q
    · omega
theorem addL_mem {is : List Int32} {i : Nat} {st : Int32} (q : ¬ st = 0) (k : Nat) : (addL is i st)[k]? = some st ↔ (k = i ∨ is[k]? = some st) := by
  unfold addL; split
  · rename_i hl
    by_cases e : i = k
    · subst e; simp [hl]
    · rw [List.getElem?_set_ne e]; exact ⟨Or.inr, fun w => w.resolve_left (fun z => e z.symm)⟩
  · rename_i hl
    by_cases e : i = k
    · subst e; rw [List.getElem?_set_self (by rw [List.length_append, List.length_replicate]; omega)]; exact ⟨fun _ => Or.inl rfl, fun _ => rfl⟩
    · rw [List.getElem?_set_ne e]
      by_cases hk : k < is.length
      · rw [List.getElem?_append_left hk]; exact ⟨Or.inr, fun w => w.resolve_left (fun z => e z.symm)⟩
      · rw [List.getElem?_append_right (by omega), List.getElem?_replicate, List.getElem?_eq_none (by omega : is.length ≤ k)]
        constructor
        · intro w; split at w
          · exact absurd (Option.some.inj w).symm q
          · cases w
        · rintro (w | w)
          · exact absurd w.symm e
          · cases w
theorem rem_mem {is : List Int32} {z : Nat} {st : Int32} (q : ¬ st = 0) (k : Nat) : (is.set z 0)[k]? = some st ↔ (is[k]? = some st ∧ ¬ k = z) := by
  by_cases e : z = k
  · subst e
    by_cases hz : z < is.length
    · simp [hz]; exact fun w => q w.symm
    · rw [List.set_eq_of_length_le (by omega), List.getElem?_eq_none (by omega : is.length ≤ z)]; simp
  · rw [List.getElem?_set_ne e]; constructor
    · exact fun w => ⟨w, fun r => e r.symm⟩
    · exact fun w => w.1
theorem rem_le {is : List Int32} {z : Nat} {st : Int32} (q : 0 ≤ st.toInt) (r : ∀ v ∈ is, v.toInt ≤ st.toInt) : ∀ v ∈ is.set z 0, v.toInt ≤ st.toInt := by
  intro v hv
  have e0 : (0 : Int32).toInt = 0 := rfl
  rcases List.mem_or_eq_of_mem_set hv with h | rfl
  · exact r v h
  · omega
theorem own_lt32 {x : Int32} {i n : Nat} (hi : x.toInt = i) (hn : n < 2147483648) : x < n.toInt32 ↔ i < n := by rw [Int32.lt_iff_toInt_lt, n32 hn, hi]; omega
theorem own_st0 {st : Int32} (q : 1 ≤ st.toInt) : ¬ st = 0 := fun w => by rw [w] at q; have e0 : (0 : Int32).toInt = 0 := rfl; omega
theorem own_inc {st : Int32} (q : 1 ≤ st.toInt) (r : st.toInt ≤ 3) : (st + 1).toInt = st.toInt + 1 := by
  have a := c_iadd st 1; have b := rng32 (st + 1); have e1 : (1 : Int32).toInt = 1 := rfl; omega
theorem own_max {a b : Int32} {i j : Nat} (ha : a.toInt = i) (hb : b.toInt = j) : (if a < b then b else a).toInt = ((max i j : Nat) : Int) := by
  split
  · rename_i q; rw [Int32.lt_iff_toInt_lt] at q; omega
  · rename_i q; rw [Int32.lt_iff_toInt_lt] at q; omega
theorem own_min {a b : Int32} {i j : Nat} (ha : a.toInt = i) (hb : b.toInt = j) : (if b < a then b else a).toInt = ((min i j : Nat) : Int) := by
  split
  · rename_i q; rw [Int32.lt_iff_toInt_lt] at q; omega
  · rename_i q; rw [Int32.lt_iff_toInt_lt] at q; omega
theorem own_two {n : Nat} (q : n < 1000) : ((2 : Int32) * n.toInt32).toInt = ((2 * n : Nat) : Int) := by
  have a := c_imul 2 n.toInt32; have b := rng32 (2 * n.toInt32); have e2 : (2 : Int32).toInt = 2 := rfl
  rw [n32 (by omega), e2] at a; omega
theorem own_one {x : Int32} {i : Nat} (hi : x.toInt = i) (q : i < 1000) : (x + (1 : Int32)).toInt = ((i + 1 : Nat) : Int) := by
  have a := c_iadd x 1; have b := rng32 (x + 1); have e1 : (1 : Int32).toInt = 1 := rfl; omega

theorem ef_rmMax (m : MethodId) (x0 : Int32) (x1 : Int32) : entryFrame m #[(.int x0), (.int x1)] 2 = mkF m 0 #[.val (.int x0), .val (.int x1)] [] := by first | (simp [entryFrame, mkF, argsToLocals, Value.category]; done) | rfl
set_option maxRecDepth 65536 in
set_option maxHeartbeats 40000000 in
theorem rmMax (l : Launch) (Z : State) (a0 : Array Value) (hw : ∀ d ∈ tables_1, d.before a0 Z = true) (p1 p2 : Int32) (h0 : Heap)  :
    Met l Z (⟨"java/lang/Math", "max", "(II)I"⟩ : MethodName) jdk_29_method_65_code 2 (some .int) ({ frames := 0, cells := 0, slots := 0, locals := 0 } : Room) #[(.int p1), (.int p2)] h0 (fun v h L => v = some (.int (if p1 < p2 then p2 else p1)) ∧ L = [] ∧ h = h0) := by
  refine Met.intro (Jvm.Free.JP.mathPlain rfl (by decide +kernel)) ?_
  intro p e s m below meth c T0 hx hby hml hown hnm hret hlk hZ X0 e0
  refine Go.cast (ef_rmMax m p1 p2) ?_
  refine Go.back (f' := (mkF m 1 #[.val (.int p1), .val (.int p2)] [(.int p1)])) (fun _ k => XS.iloadN X0.here hx rfl (hb hby d4_0) rfl k) ?_
  refine Go.back (f' := (mkF m 2 #[.val (.int p1), .val (.int p2)] [(.int p2), (.int p1)])) (fun _ k => XS.iloadN X0.here hx rfl (hb hby d4_1) rfl k) ?_
  by_cases hc : p1 < p2
  · refine Go.back (f' := (mkF m 9 #[.val (.int p1), .val (.int p2)] [])) (fun _ k => XS.icmpYes X0.here hx rfl (pc0 := 2) (pc' := 9) rfl (hb hby d4_2) rfl (tlt hc).1 (by decide) (by decide) k) ?_
    refine Go.back (f' := (mkF m 10 #[.val (.int p1), .val (.int p2)] [(.int p2)])) (fun _ k => XS.iloadN X0.here hx rfl (hb hby d4_9) rfl k) ?_
    exact Go.retI X0 hx hret hlk (hb hby d4_10) (by (try rw [e0]); exact ⟨by rw [if_pos hc], rfl, rfl⟩) (Nat.zero_le _) (Nat.zero_le _)
  · refine Go.back (f' := (mkF m 5 #[.val (.int p1), .val (.int p2)] [])) (fun _ k => XS.icmpNo X0.here hx rfl (hb hby d4_2) rfl (flt hc).1 k) ?_
    refine Go.back (f' := (mkF m 6 #[.val (.int p1), .val (.int p2)] [(.int p1)])) (fun _ k => XS.iloadN X0.here hx rfl (hb hby d4_5) rfl k) ?_
    refine Go.back (f' := (mkF m 10 #[.val (.int p1), .val (.int p2)] [(.int p1)])) (fun _ k => XS.goto X0.here hx rfl (pc0 := 6) (pc' := 10) rfl (hb hby d4_6) (by decide) (by decide) k) ?_
    exact Go.retI X0 hx hret hlk (hb hby d4_10) (by (try rw [e0]); exact ⟨by rw [if_neg hc], rfl, rfl⟩) (Nat.zero_le _) (Nat.zero_le _)
theorem ef_rmMin (m : MethodId) (x0 : Int32) (x1 : Int32) : entryFrame m #[(.int x0), (.int x1)] 2 = mkF m 0 #[.val (.int x0), .val (.int x1)] [] := by first | (simp [entryFrame, mkF, argsToLocals, Value.category]; done) | rfl
set_option maxRecDepth 65536 in
set_option maxHeartbeats 40000000 in
theorem rmMin (l : Launch) (Z : State) (a0 : Array Value) (hw : ∀ d ∈ tables_1, d.before a0 Z = true) (p1 p2 : Int32) (h0 : Heap)  :
    Met l Z (⟨"java/lang/Math", "min", "(II)I"⟩ : MethodName) jdk_29_method_69_code 2 (some .int) ({ frames := 0, cells := 0, slots := 0, locals := 0 } : Room) #[(.int p1), (.int p2)] h0 (fun v h L => v = some (.int (if p2 < p1 then p2 else p1)) ∧ L = [] ∧ h = h0) := by
  refine Met.intro (Jvm.Free.JP.mathPlain rfl (by decide +kernel)) ?_
  intro p e s m below meth c T0 hx hby hml hown hnm hret hlk hZ X0 e0
  refine Go.cast (ef_rmMin m p1 p2) ?_
  refine Go.back (f' := (mkF m 1 #[.val (.int p1), .val (.int p2)] [(.int p1)])) (fun _ k => XS.iloadN X0.here hx rfl (hb hby d6_0) rfl k) ?_
  refine Go.back (f' := (mkF m 2 #[.val (.int p1), .val (.int p2)] [(.int p2), (.int p1)])) (fun _ k => XS.iloadN X0.here hx rfl (hb hby d6_1) rfl k) ?_
  by_cases hc : p2 < p1
  · refine Go.back (f' := (mkF m 9 #[.val (.int p1), .val (.int p2)] [])) (fun _ k => XS.icmpYes X0.here hx rfl (pc0 := 2) (pc' := 9) rfl (hb hby d6_2) rfl (tlt hc).2.2.1 (by decide) (by decide) k) ?_
    refine Go.back (f' := (mkF m 10 #[.val (.int p1), .val (.int p2)] [(.int p2)])) (fun _ k => XS.iloadN X0.here hx rfl (hb hby d6_9) rfl k) ?_
    exact Go.retI X0 hx hret hlk (hb hby d6_10) (by (try rw [e0]); exact ⟨by rw [if_pos hc], rfl, rfl⟩) (Nat.zero_le _) (Nat.zero_le _)
  · refine Go.back (f' := (mkF m 5 #[.val (.int p1), .val (.int p2)] [])) (fun _ k => XS.icmpNo X0.here hx rfl (hb hby d6_2) rfl (flt hc).2.2.1 k) ?_
    refine Go.back (f' := (mkF m 6 #[.val (.int p1), .val (.int p2)] [(.int p1)])) (fun _ k => XS.iloadN X0.here hx rfl (hb hby d6_5) rfl k) ?_
    refine Go.back (f' := (mkF m 10 #[.val (.int p1), .val (.int p2)] [(.int p1)])) (fun _ k => XS.goto X0.here hx rfl (pc0 := 6) (pc' := 10) rfl (hb hby d6_6) (by decide) (by decide) k) ?_
    exact Go.retI X0 hx hret hlk (hb hby d6_10) (by (try rw [e0]); exact ⟨by rw [if_neg hc], rfl, rfl⟩) (Nat.zero_le _) (Nat.zero_le _)
theorem ef_rmCopy (m : MethodId) (x0 : Addr) (x1 : Int32) : entryFrame m #[(.ref x0), (.int x1)] 3 = mkF m 0 #[.val (.ref x0), .val (.int x1), .unset] [] := by first | (simp [entryFrame, mkF, argsToLocals, Value.category]; done) | rfl
set_option maxRecDepth 65536 in
set_option maxHeartbeats 40000000 in
theorem rmCopy (l : Launch) (Z : State) (a0 : Array Value) (hw : ∀ d ∈ tables_1, d.before a0 Z = true) (a1 : Addr) (nn : Int32) (vs : List Value) (k n0 : Nat) (h0 : Heap) (Z0 : n0 ≤ h0.size) (A : VArr Z h0 a1 .int vs) (hn : nn.toInt = ((vs.length + k : Nat) : Int)) (hk1 : 0 < k) (hk2 : vs.length + k ≤ 30) :
    Met l Z (⟨"java/util/Arrays", "copyOf", "([II)[I"⟩ : MethodName) jdk_65_method_123_code 3 (some (.array .int)) ({ frames := 1, cells := 1, slots := 30, locals := 40 } : Room) #[(.ref a1), (.int nn)] h0 (fun v h L => ∃ b1, v = some (.ref b1) ∧ Chg n0 h0 h [] L ∧ h0.size ≤ b1 ∧ VArr Z h b1 .int (vs ++ List.replicate k (.int 0))) := by
  refine Met.intro (by decide +kernel) ?_
  intro p e s m below meth c T0 hx hby hml hown hnm hret hlk hZ X0 e0
  refine Go.cast (ef_rmCopy m a1 nn) ?_
  have K0 : Chg n0 h0 h0 [] [] := Chg.refl Z0
  have hN := A.len
  refine Go.back (f' := (mkF m 1 #[.val (.ref a1), .val (.int nn), .unset] [(.int nn)])) (fun _ k => XS.iloadN X0.here hx rfl (hb hby d5_0) rfl k) ?_
  refine Go.back (f' := (mkF m 2 #[.val (.ref a1), .val (.int nn), .unset] [(.ref a1), (.int nn)])) (fun _ k => XS.aloadN X0.here hx rfl (hb hby d5_1) rfl rfl k) ?_
  refine Go.back (f' := (mkF m 3 #[.val (.ref a1), .val (.int nn), .unset] [(.int (vs).length.toInt32), (.int nn)])) (A.lenS X0 hx hZ e0 (hb hby d5_2)) ?_
  refine Go.back (f' := (mkF m 14 #[.val (.ref a1), .val (.int nn), .unset] [])) (fun _ k => XS.icmpYes X0.here hx rfl (pc0 := 3) (pc' := 14) rfl (hb hby d5_3) rfl (feq (fun q => by rw [q, n32 hN] at hn; omega)).2 (by decide) (by decide) k) ?_
  refine Go.back (f' := (mkF m 15 #[.val (.ref a1), .val (.int nn), .unset] [(.int nn)])) (fun _ k => XS.iloadN X0.here hx rfl (hb hby d5_14) rfl k) ?_
  refine Go.newA X0 hx hZ (hw _ (List.mem_of_getElem? (i := 11) rfl)) e0 (hb hby d5_15) (i := (vs.length + k)) hn (cap := 30) hk2 (by decide) (by decide) (by decide) ?_
  intro T1 h1 b1 q1 X1 e1 E1 V1
  have V1 : VArr Z h1 b1 .int (List.replicate (vs.length + k) (.int 0)) := V1
  have ne_a1_b1 : a1 ≠ b1 := lt_ne q1 A.lt
  have sz_b1 := K0.at q1
  have g_b1 := K0.ge sz_b1
  have Ar_2 := A.ext E1
  have K_3 := K0.ext E1
  show GoG _ _ _ _ _ (mkF m 17 #[.val (.ref a1), .val (.int nn), .unset] [(.ref b1)])
  refine Go.back (f' := (mkF m 18 #[.val (.ref a1), .val (.int nn), .val (.ref b1)] [])) (fun _ k => XS.astoreN X1.here hx rfl (hb hby d5_17) rfl rfl (l' := #[.val (.ref a1), .val (.int nn), .val (.ref b1)]) rfl k) ?_
  refine Go.back (f' := (mkF m 19 #[.val (.ref a1), .val (.int nn), .val (.ref b1)] [(.ref a1)])) (fun _ k => XS.aloadN X1.here hx rfl (hb hby d5_18) rfl rfl k) ?_
  refine Go.back (f' := (mkF m 20 #[.val (.ref a1), .val (.int nn), .val (.ref b1)] [(.int (0 : Int32)), (.ref a1)])) (fun _ k => XS.iconst X1.here hx rfl (hb hby d5_19) k) ?_
  refine Go.back (f' := (mkF m 21 #[.val (.ref a1), .val (.int nn), .val (.ref b1)] [(.ref b1), (.int (0 : Int32)), (.ref a1)])) (fun _ k => XS.aloadN X1.here hx rfl (hb hby d5_20) rfl rfl k) ?_
  refine Go.back (f' := (mkF m 22 #[.val (.ref a1), .val (.int nn), .val (.ref b1)] [(.int (0 : Int32)), (.ref b1), (.int (0 : Int32)), (.ref a1)])) (fun _ k => XS.iconst X1.here hx rfl (hb hby d5_21) k) ?_
  refine Go.back (f' := (mkF m 23 #[.val (.ref a1), .val (.int nn), .val (.ref b1)] [(.ref a1), (.int (0 : Int32)), (.ref b1), (.int (0 : Int32)), (.ref a1)])) (fun _ k => XS.aloadN X1.here hx rfl (hb hby d5_22) rfl rfl k) ?_
  refine Go.back (f' := (mkF m 24 #[.val (.ref a1), .val (.int nn), .val (.ref b1)] [(.int (vs).length.toInt32), (.int (0 : Int32)), (.ref b1), (.int (0 : Int32)), (.ref a1)])) (Ar_2.lenS X1 hx hZ e1 (hb hby d5_23)) ?_
  refine Go.back (f' := (mkF m 25 #[.val (.ref a1), .val (.int nn), .val (.ref b1)] [(.int nn), (.int (vs).length.toInt32), (.int (0 : Int32)), (.ref b1), (.int (0 : Int32)), (.ref a1)])) (fun _ k => XS.iloadN X1.here hx rfl (hb hby d5_24) rfl k) ?_
  refine Go.callS X1 hx hZ hown (hw _ (List.mem_of_getElem? (i := 27) rfl)) (hw _ (List.mem_of_getElem? (i := 28) rfl)) (hw _ (List.mem_of_getElem? (i := 21) rfl)) (hw _ (List.mem_of_getElem? (i := 29) rfl)) (by decide) e1 (argsL := [(.int (vs).length.toInt32), (.int nn)]) (rest := [(.int (0 : Int32)), (.ref b1), (.int (0 : Int32)), (.ref a1)]) (rmMin l Z a0 hw vs.length.toInt32 nn h1) (lenOf pd_0 rfl) rfl (by rw [hml]; rfl) (W := 4) (Nat.le_of_eq rfl) (hb hby d5_25) (by decide) (by decide) (by decide) (by decide) ?_
  intro v4 T4 L4 X4 hQ4
  obtain ⟨rfl, rfl, hh4⟩ := hQ4
  rw [List.append_nil] at X4
  have hm := own_min (n32 hN) hn
  generalize (if nn < vs.length.toInt32 then nn else vs.length.toInt32) = mm at hm ⊢
  rw [Nat.min_eq_left (by omega)] at hm
  show GoG _ _ _ _ _ (mkF m 28 #[.val (.ref a1), .val (.int nn), .val (.ref b1)] [(.int mm), (.int (0 : Int32)), (.ref b1), (.int (0 : Int32)), (.ref a1)])
  refine Go.cpy X4 hx hZ hown (hw _ (List.mem_of_getElem? (i := 30) rfl)) (hw _ (List.mem_of_getElem? (i := 33) rfl)) (hw _ (List.mem_of_getElem? (i := 31) rfl)) (hw _ (List.mem_of_getElem? (i := 32) rfl)) hh4 Ar_2 V1 rfl (i := 0) rfl (j' := 0) rfl (n := vs.length) hm (by omega) (by simp) K_3.fr g_b1 (by rw [hml]; rfl) (hb hby d5_28) (by decide) (W := 0) (Nat.le_of_eq rfl) (by decide) ?_
  intro T5 h5 L5 X5 e5 N5 Kc5 V5
  have Ar_6 := Ar_2.keep Kc5 (ninS ne_a1_b1 nin0)
  have K_7 := K_3.cpy Kc5 N5 (Or.inr sz_b1)
  show GoG _ _ _ _ _ (mkF m 31 #[.val (.ref a1), .val (.int nn), .val (.ref b1)] [])
  refine Go.back (f' := (mkF m 32 #[.val (.ref a1), .val (.int nn), .val (.ref b1)] [(.ref b1)])) (fun _ k => XS.aloadN X5.here hx rfl (hb hby d5_31) rfl rfl k) ?_
  exact Go.retA X5 hx hret hlk (hb hby d5_32) rfl rfl (by (try rw [e5]); exact ⟨b1, rfl, K_7, sz_b1, V5.to (by simp)⟩) (by decide) (by decide)
theorem ef_rmIni (m : MethodId) (x0 : Addr) (x1 : Int32) : entryFrame m #[(.ref x0), (.int x1)] 2 = mkF m 0 #[.val (.ref x0), .val (.int x1)] [] := by first | (simp [entryFrame, mkF, argsToLocals, Value.category]; done) | rfl
set_option maxRecDepth 65536 in
set_option maxHeartbeats 40000000 in
theorem rmIni (l : Launch) (Z : State) (a0 : Array Value) (hw : ∀ d ∈ tables_1, d.before a0 Z = true) (mo : Addr) (nn : Int32) (i n0 : Nat) (h0 : Heap) (Z0 : n0 ≤ h0.size) (Ex : Exa Z h0 mo "com/example/mu_tableau/mutableau/engine/Marks") (F1 : Fld Z h0 mo "com/example/mu_tableau/mutableau/engine/Marks" "stamp" "I" (.int (0 : Int32))) (F2 : Fld Z h0 mo "com/example/mu_tableau/mutableau/engine/Marks" "markedAt" "[I" .null) (hi : nn.toInt = i) (i7 : i ≤ 7) (g_mo : n0 ≤ mo) :
    Met l Z (⟨"com/example/mu_tableau/mutableau/engine/Marks", "<init>", "(I)V"⟩ : MethodName) prog_51_method_1_code 2 none ({ frames := 1, cells := 1, slots := 7, locals := 12 } : Room) #[(.ref mo), (.int nn)] h0 (fun v h L => v = none ∧ Chg n0 h0 h [mo] L ∧ ∃ arr, h0.size ≤ arr ∧ MR Z h mo arr 1 (List.replicate i 0)) := by
  refine Met.intro (plainFor_of_name (by first | (simp [plainName, overriddenIn]; done) | decide +kernel)) ?_
  intro p e s m below meth c T0 hx hby hml hown hnm hret hlk hZ X0 e0
  refine Go.cast (ef_rmIni m mo nn) ?_
  have K0 : Chg n0 h0 h0 [mo] [] := Chg.refl Z0
  refine Go.back (f' := (mkF m 1 #[.val (.ref mo), .val (.int nn)] [(.ref mo)])) (fun _ k => XS.aloadN X0.here hx rfl (hb hby d1_0) rfl rfl k) ?_
  obtain ⟨T8, X8, e8, st8⟩ := initO X0 hx hZ hown (hw _ (List.mem_of_getElem? (i := 6) rfl)) (hw _ (List.mem_of_getElem? (i := 7) rfl)) (hw _ (List.mem_of_getElem? (i := 8) rfl)) e0 (g := (mkF m 1 #[.val (.ref mo), .val (.int nn)] [(.ref mo)])) rfl (by rw [hml]; rfl) rfl (hb hby d1_1) (by decide) (W := 0) (by show 2 * 0 + _ ≤ _; exact Nat.le_of_eq rfl) (by decide)
  refine Go.back (f' := (mkF m 4 #[.val (.ref mo), .val (.int nn)] [])) st8 ?_
  refine Go.back (f' := (mkF m 5 #[.val (.ref mo), .val (.int nn)] [(.ref mo)])) (fun _ k => XS.aloadN X8.here hx rfl (hb hby d1_4) rfl rfl k) ?_
  refine Go.back (f' := (mkF m 6 #[.val (.ref mo), .val (.int nn)] [(.int (1 : Int32)), (.ref mo)])) (fun _ k => XS.iconst X8.here hx rfl (hb hby d1_5) k) ?_
  obtain ⟨T9, h9, X9, e9, W9, st9⟩ := putF X8 hx hZ hown (host := "") (Or.inl (hw _ (List.mem_of_getElem? (i := 9) rfl))) Via.refl e8 F1 Ex (Or.inl (hw _ (List.mem_of_getElem? (i := 10) rfl))) (hw _ (List.mem_of_getElem? (i := 1) rfl)) (ty := .int) (by decide) rfl rfl (g := (mkF m 6 #[.val (.ref mo), .val (.int nn)] [(.int (1 : Int32)), (.ref mo)])) rfl rfl (hb hby d1_6)
  refine Go.back (f' := (mkF m 9 #[.val (.ref mo), .val (.int nn)] [])) st9 ?_
  have Ex_10 := Ex.wr W9
  have Fl_11 := F1.same W9
  have Fl_12 := F2.other W9 (Or.inr (slot_ne (Or.inl (hw _ (List.mem_of_getElem? (i := 13) rfl))) (Or.inl (hw _ (List.mem_of_getElem? (i := 10) rfl))) (by decide) (t := (.array .int)) (t' := .int) (by decide) (by decide)))
  have K_13 := K0.wr W9 (Or.inl (List.mem_of_getElem? (i := 0) rfl)) g_mo
  refine Go.back (f' := (mkF m 10 #[.val (.ref mo), .val (.int nn)] [(.ref mo)])) (fun _ k => XS.aloadN X9.here hx rfl (hb hby d1_9) rfl rfl k) ?_
  refine Go.back (f' := (mkF m 11 #[.val (.ref mo), .val (.int nn)] [(.int nn), (.ref mo)])) (fun _ k => XS.iloadN X9.here hx rfl (hb hby d1_10) rfl k) ?_
  refine Go.newA X9 hx hZ (hw _ (List.mem_of_getElem? (i := 11) rfl)) e9 (hb hby d1_11) (i := i) hi (cap := 7) i7 (by decide) (by decide) (by decide) ?_
  intro T14 h14 arr q14 X14 e14 E14 V14
  have V14 : VArr Z h14 arr .int (List.replicate i (.int 0)) := V14
  have ne_mo_arr : mo ≠ arr := lt_ne q14 Ex_10.lt
  have sz_arr := K_13.at q14
  have g_arr := K_13.ge sz_arr
  have Ex_15 := Ex_10.ext E14
  have Fl_16 := Fl_11.ext E14
  have Fl_17 := Fl_12.ext E14
  have K_18 := K_13.ext E14
  show GoG _ _ _ _ _ (mkF m 13 #[.val (.ref mo), .val (.int nn)] [(.ref arr), (.ref mo)])
  obtain ⟨T19, h19, X19, e19, W19, st19⟩ := putF X14 hx hZ hown (host := "") (Or.inl (hw _ (List.mem_of_getElem? (i := 12) rfl))) Via.refl e14 Fl_17 Ex_15 (Or.inl (hw _ (List.mem_of_getElem? (i := 13) rfl))) (hw _ (List.mem_of_getElem? (i := 1) rfl)) (ty := (.array .int)) (by decide) rfl rfl (g := (mkF m 13 #[.val (.ref mo), .val (.int nn)] [(.ref arr), (.ref mo)])) rfl rfl (hb hby d1_13)
  refine Go.back (f' := (mkF m 16 #[.val (.ref mo), .val (.int nn)] [])) st19 ?_
  have Ex_20 := Ex_15.wr W19
  have Fl_21 := Fl_16.other W19 (Or.inr (slot_ne (Or.inl (hw _ (List.mem_of_getElem? (i := 10) rfl))) (Or.inl (hw _ (List.mem_of_getElem? (i := 13) rfl))) (by decide) (t := .int) (t' := (.array .int)) (by decide) (by decide)))
  have Fl_22 := Fl_17.same W19
  have Ar_23 := V14.other W19 (Ne.symm ne_mo_arr)
  have K_24 := K_18.wr W19 (Or.inl (List.mem_of_getElem? (i := 0) rfl)) g_mo
  exact Go.ret0 X19 hx hret hlk (hb hby d1_16) (by (try rw [e19]); exact ⟨rfl, K_24, arr, sz_arr, Ex_20, Fl_21, Fl_22, Ar_23.to (by simp)⟩) (by decide) (by decide)
theorem ef_rmAdd (m : MethodId) (x0 : Addr) (x1 : Int32) : entryFrame m #[(.ref x0), (.int x1)] 2 = mkF m 0 #[.val (.ref x0), .val (.int x1)] [] := by first | (simp [entryFrame, mkF, argsToLocals, Value.category]; done) | rfl
set_option maxRecDepth 65536 in
set_option maxHeartbeats 40000000 in
theorem rmAdd (l : Launch) (Z : State) (a0 : Array Value) (hw : ∀ d ∈ tables_1, d.before a0 Z = true) (mo arr : Addr) (st x : Int32) (is : List Int32) (i n0 : Nat) (h0 : Heap) (Z0 : n0 ≤ h0.size) (R0 : MR Z h0 mo arr st is) (hi : x.toInt = i) (i16 : i < 16) (l30 : is.length ≤ 30) (g_mo : n0 ≤ mo) (g_arr : n0 ≤ arr) :
    Met l Z (⟨"com/example/mu_tableau/mutableau/engine/Marks", "add", "(I)V"⟩ : MethodName) prog_51_method_2_code 2 none ({ frames := 2, cells := 1, slots := 30, locals := 60 } : Room) #[(.ref mo), (.int x)] h0 (fun v h L => v = none ∧ Chg n0 h0 h [mo, arr] L ∧ ∃ arr', (arr' = arr ∨ h0.size ≤ arr') ∧ MR Z h mo arr' st (addL is i st)) := by
  refine Met.intro (plainFor_of_name (by first | (simp [plainName, overriddenIn]; done) | decide +kernel)) ?_
  intro p e s m below meth c T0 hx hby hml hown hnm hret hlk hZ X0 e0
  refine Go.cast (ef_rmAdd m mo x) ?_
  obtain ⟨Ex, F1, F2, A⟩ := R0
  have ne_mo_arr : mo ≠ arr := A.exa_ne Ex (hw _ (List.mem_of_getElem? (i := 1) rfl))
  have K0 : Chg n0 h0 h0 [mo, arr] [] := Chg.refl Z0
  have hN : is.length < 2147483648 := by have := A.len; rwa [List.length_map] at this
  refine Go.back (f' := (mkF m 1 #[.val (.ref mo), .val (.int x)] [(.int x)])) (fun _ k => XS.iloadN X0.here hx rfl (hb hby d3_0) rfl k) ?_
  refine Go.back (f' := (mkF m 2 #[.val (.ref mo), .val (.int x)] [(.ref mo), (.int x)])) (fun _ k => XS.aloadN X0.here hx rfl (hb hby d3_1) rfl rfl k) ?_
  obtain ⟨T25, X25, e25, st25⟩ := getF X0 hx hZ hown (host := "") (Or.inl (hw _ (List.mem_of_getElem? (i := 12) rfl))) Via.refl e0 F2 (g := (mkF m 2 #[.val (.ref mo), .val (.int x)] [(.ref mo), (.int x)])) rfl rfl (hb hby d3_2)
  refine Go.back (f' := (mkF m 5 #[.val (.ref mo), .val (.int x)] [(.ref arr), (.int x)])) st25 ?_
  refine Go.back (f' := (mkF m 6 #[.val (.ref mo), .val (.int x)] [(.int ((is.map Value.int)).length.toInt32), (.int x)])) (A.lenS X25 hx hZ e25 (hb hby d3_5)) ?_
  rw [List.length_map]
  show GoG _ _ _ _ _ (mkF m 6 #[.val (.ref mo), .val (.int x)] [(.int is.length.toInt32), (.int x)])
  by_cases hc : x < is.length.toInt32
  · refine Go.back (f' := (mkF m 33 #[.val (.ref mo), .val (.int x)] [])) (fun _ k => XS.icmpYes X25.here hx rfl (pc0 := 6) (pc' := 33) rfl (hb hby d3_6) rfl (tlt hc).1 (by decide) (by decide) k) ?_
    have hl := (own_lt32 hi hN).mp hc
    refine Go.back (f' := (mkF m 34 #[.val (.ref mo), .val (.int x)] [(.ref mo)])) (fun _ k => XS.aloadN X25.here hx rfl (hb hby d3_33) rfl rfl k) ?_
    obtain ⟨T26, X26, e26, st26⟩ := getF X25 hx hZ hown (host := "") (Or.inl (hw _ (List.mem_of_getElem? (i := 12) rfl))) Via.refl e25 F2 (g := (mkF m 34 #[.val (.ref mo), .val (.int x)] [(.ref mo)])) rfl rfl (hb hby d3_34)
    refine Go.back (f' := (mkF m 37 #[.val (.ref mo), .val (.int x)] [(.ref arr)])) st26 ?_
    refine Go.back (f' := (mkF m 38 #[.val (.ref mo), .val (.int x)] [(.int x), (.ref arr)])) (fun _ k => XS.iloadN X26.here hx rfl (hb hby d3_37) rfl k) ?_
    refine Go.back (f' := (mkF m 39 #[.val (.ref mo), .val (.int x)] [(.ref mo), (.int x), (.ref arr)])) (fun _ k => XS.aloadN X26.here hx rfl (hb hby d3_38) rfl rfl k) ?_
    obtain ⟨T27, X27, e27, st27⟩ := getF X26 hx hZ hown (host := "") (Or.inl (hw _ (List.mem_of_getElem? (i := 9) rfl))) Via.refl e26 F1 (g := (mkF m 39 #[.val (.ref mo), .val (.int x)] [(.ref mo), (.int x), (.ref arr)])) rfl rfl (hb hby d3_39)
    refine Go.back (f' := (mkF m 42 #[.val (.ref mo), .val (.int x)] [(.int st), (.int x), (.ref arr)])) st27 ?_
    refine Go.stI A X27 hx hZ e27 (hb hby d3_42) (i := i) hi (by rw [List.length_map]; exact hl) ?_
    intro T28 h28 X28 e28 W28 V28
    have Ex_29 := Ex.wr W28
    have Fl_30 := F1.other W28 (Or.inl ne_mo_arr)
    have Fl_31 := F2.other W28 (Or.inl ne_mo_arr)
    have K_32 := K0.wr W28 (Or.inl (List.mem_of_getElem? (i := 1) rfl)) g_arr
    show GoG _ _ _ _ _ (mkF m 43 #[.val (.ref mo), .val (.int x)] [])
    exact Go.ret0 X28 hx hret hlk (hb hby d3_43) (by (try rw [e28]); exact ⟨rfl, K_32, arr, Or.inl rfl, Ex_29, Fl_30, Fl_31, V28.to (by rw [addL_in st hl, List.map_set])⟩) (by decide) (by decide)
  · refine Go.back (f' := (mkF m 9 #[.val (.ref mo), .val (.int x)] [])) (fun _ k => XS.icmpNo X25.here hx rfl (hb hby d3_6) rfl (flt hc).1 k) ?_
    have hl : ¬ i < is.length := fun q => hc ((own_lt32 hi hN).mpr q)
    refine Go.back (f' := (mkF m 10 #[.val (.ref mo), .val (.int x)] [(.ref mo)])) (fun _ k => XS.aloadN X25.here hx rfl (hb hby d3_9) rfl rfl k) ?_
    refine Go.back (f' := (mkF m 11 #[.val (.ref mo), .val (.int x)] [(.ref mo), (.ref mo)])) (fun _ k => XS.aloadN X25.here hx rfl (hb hby d3_10) rfl rfl k) ?_
    obtain ⟨T33, X33, e33, st33⟩ := getF X25 hx hZ hown (host := "") (Or.inl (hw _ (List.mem_of_getElem? (i := 12) rfl))) Via.refl e25 F2 (g := (mkF m 11 #[.val (.ref mo), .val (.int x)] [(.ref mo), (.ref mo)])) rfl rfl (hb hby d3_11)
    refine Go.back (f' := (mkF m 14 #[.val (.ref mo), .val (.int x)] [(.ref arr), (.ref mo)])) st33 ?_
    refine Go.back (f' := (mkF m 15 #[.val (.ref mo), .val (.int x)] [(.int (2 : Int32)), (.ref arr), (.ref mo)])) (fun _ k => XS.iconst X33.here hx rfl (hb hby d3_14) k) ?_
    refine Go.back (f' := (mkF m 16 #[.val (.ref mo), .val (.int x)] [(.ref mo), (.int (2 : Int32)), (.ref arr), (.ref mo)])) (fun _ k => XS.aloadN X33.here hx rfl (hb hby d3_15) rfl rfl k) ?_
    obtain ⟨T34, X34, e34, st34⟩ := getF X33 hx hZ hown (host := "") (Or.inl (hw _ (List.mem_of_getElem? (i := 12) rfl))) Via.refl e33 F2 (g := (mkF m 16 #[.val (.ref mo), .val (.int x)] [(.ref mo), (.int (2 : Int32)), (.ref arr), (.ref mo)])) rfl rfl (hb hby d3_16)
    refine Go.back (f' := (mkF m 19 #[.val (.ref mo), .val (.int x)] [(.ref arr), (.int (2 : Int32)), (.ref arr), (.ref mo)])) st34 ?_
    refine Go.back (f' := (mkF m 20 #[.val (.ref mo), .val (.int x)] [(.int ((is.map Value.int)).length.toInt32), (.int (2 : Int32)), (.ref arr), (.ref mo)])) (A.lenS X34 hx hZ e34 (hb hby d3_19)) ?_
    rw [List.length_map]
    show GoG _ _ _ _ _ (mkF m 20 #[.val (.ref mo), .val (.int x)] [(.int is.length.toInt32), (.int (2 : Int32)), (.ref arr), (.ref mo)])
    refine Go.back (f' := (mkF m 21 #[.val (.ref mo), .val (.int x)] [(.int ((2 : Int32) * is.length.toInt32)), (.ref arr), (.ref mo)])) (fun _ k => XS.imul X34.here hx rfl (hb hby d3_20) rfl k) ?_
    refine Go.back (f' := (mkF m 22 #[.val (.ref mo), .val (.int x)] [(.int x), (.int ((2 : Int32) * is.length.toInt32)), (.ref arr), (.ref mo)])) (fun _ k => XS.iloadN X34.here hx rfl (hb hby d3_21) rfl k) ?_
    refine Go.back (f' := (mkF m 23 #[.val (.ref mo), .val (.int x)] [(.int (1 : Int32)), (.int x), (.int ((2 : Int32) * is.length.toInt32)), (.ref arr), (.ref mo)])) (fun _ k => XS.iconst X34.here hx rfl (hb hby d3_22) k) ?_
    refine Go.back (f' := (mkF m 24 #[.val (.ref mo), .val (.int x)] [(.int (x + (1 : Int32))), (.int ((2 : Int32) * is.length.toInt32)), (.ref arr), (.ref mo)])) (fun _ k => XS.iadd X34.here hx rfl (hb hby d3_23) rfl k) ?_
    refine Go.callS X34 hx hZ hown (hw _ (List.mem_of_getElem? (i := 19) rfl)) (hw _ (List.mem_of_getElem? (i := 20) rfl)) (hw _ (List.mem_of_getElem? (i := 21) rfl)) (hw _ (List.mem_of_getElem? (i := 22) rfl)) (by decide) e34 (argsL := [(.int ((2 : Int32) * is.length.toInt32)), (.int (x + (1 : Int32)))]) (rest := [(.ref arr), (.ref mo)]) (rmMax l Z a0 hw ((2 : Int32) * is.length.toInt32) (x + (1 : Int32)) h0) (lenOf pd_0 rfl) rfl (by rw [hml]; rfl) (W := 2) (Nat.le_of_eq rfl) (hb hby d3_24) (by decide) (by decide) (by decide) (by decide) ?_
    intro v35 T35 L35 X35 hQ35
    obtain ⟨rfl, rfl, hh35⟩ := hQ35
    rw [List.append_nil] at X35
    have hm := own_max (own_two (n := is.length) (by omega)) (own_one hi (by omega))
    generalize (if ((2 : Int32) * is.length.toInt32) < (x + (1 : Int32)) then (x + (1 : Int32)) else ((2 : Int32) * is.length.toInt32)) = mx at hm ⊢
    have ek : max (2 * is.length) (i + 1) = (is.map Value.int).length + (max (2 * is.length) (i + 1) - is.length) := by rw [List.length_map]; omega
    rw [ek] at hm
    show GoG _ _ _ _ _ (mkF m 27 #[.val (.ref mo), .val (.int x)] [(.int mx), (.ref arr), (.ref mo)])
    refine Go.callS X35 hx hZ hown (hw _ (List.mem_of_getElem? (i := 23) rfl)) (hw _ (List.mem_of_getElem? (i := 24) rfl)) (hw _ (List.mem_of_getElem? (i := 25) rfl)) (hw _ (List.mem_of_getElem? (i := 26) rfl)) (by decide) hh35 (argsL := [(.ref arr), (.int mx)]) (rest := [(.ref mo)]) (rmCopy l Z a0 hw arr mx (is.map Value.int) (max (2 * is.length) (i + 1) - is.length) n0 h0 K0.size A hm (by omega) (by rw [List.length_map]; omega)) (lenOf pd_1 rfl) rfl (by rw [hml]; rfl) (W := 1) (Nat.le_of_eq rfl) (hb hby d3_27) (by decide) (by decide) (by decide) (by decide) ?_
    intro v36 T36 L36 X36 hQ36
    obtain ⟨b1, rfl, C36, z36, V36⟩ := hQ36
    have ne_arr_b1 : arr ≠ b1 := Nat.ne_of_lt (Nat.lt_of_lt_of_le A.lt z36)
    have ne_mo_b1 : mo ≠ b1 := Nat.ne_of_lt (Nat.lt_of_lt_of_le Ex.lt z36)
    have sz_b1 := Nat.le_trans K0.grow z36
    have g_b1 := K0.ge sz_b1
    have Ex_37 := Ex.keep C36.keep
    have Fl_38 := F1.keep C36.keep nin0
    have Fl_39 := F2.keep C36.keep nin0
    have Ar_40 := A.keep C36.keep nin0
    have K_41 := K0.call C36 all0
    show GoG _ _ _ _ _ (mkF m 30 #[.val (.ref mo), .val (.int x)] [(.ref b1), (.ref mo)])
    obtain ⟨T42, h42, X42, e42, W42, st42⟩ := putF X36 hx hZ hown (host := "") (Or.inl (hw _ (List.mem_of_getElem? (i := 12) rfl))) Via.refl rfl Fl_39 Ex_37 (Or.inl (hw _ (List.mem_of_getElem? (i := 13) rfl))) (hw _ (List.mem_of_getElem? (i := 1) rfl)) (ty := (.array .int)) (by decide) rfl rfl (g := (mkF m 30 #[.val (.ref mo), .val (.int x)] [(.ref b1), (.ref mo)])) rfl rfl (hb hby d3_30)
    refine Go.back (f' := (mkF m 33 #[.val (.ref mo), .val (.int x)] [])) st42 ?_
    have Ex_43 := Ex_37.wr W42
    have Fl_44 := Fl_38.other W42 (Or.inr (slot_ne (Or.inl (hw _ (List.mem_of_getElem? (i := 10) rfl))) (Or.inl (hw _ (List.mem_of_getElem? (i := 13) rfl))) (by decide) (t := .int) (t' := (.array .int)) (by decide) (by decide)))
    have Fl_45 := Fl_39.same W42
    have Ar_46 := Ar_40.other W42 (Ne.symm ne_mo_arr)
    have Ar_47 := V36.other W42 (Ne.symm ne_mo_b1)
    have K_48 := K_41.wr W42 (Or.inl (List.mem_of_getElem? (i := 0) rfl)) g_mo
    refine Go.back (f' := (mkF m 34 #[.val (.ref mo), .val (.int x)] [(.ref mo)])) (fun _ k => XS.aloadN X42.here hx rfl (hb hby d3_33) rfl rfl k) ?_
    obtain ⟨T49, X49, e49, st49⟩ := getF X42 hx hZ hown (host := "") (Or.inl (hw _ (List.mem_of_getElem? (i := 12) rfl))) Via.refl e42 Fl_45 (g := (mkF m 34 #[.val (.ref mo), .val (.int x)] [(.ref mo)])) rfl rfl (hb hby d3_34)
    refine Go.back (f' := (mkF m 37 #[.val (.ref mo), .val (.int x)] [(.ref b1)])) st49 ?_
    refine Go.back (f' := (mkF m 38 #[.val (.ref mo), .val (.int x)] [(.int x), (.ref b1)])) (fun _ k => XS.iloadN X49.here hx rfl (hb hby d3_37) rfl k) ?_
    refine Go.back (f' := (mkF m 39 #[.val (.ref mo), .val (.int x)] [(.ref mo), (.int x), (.ref b1)])) (fun _ k => XS.aloadN X49.here hx rfl (hb hby d3_38) rfl rfl k) ?_
    obtain ⟨T50, X50, e50, st50⟩ := getF X49 hx hZ hown (host := "") (Or.inl (hw _ (List.mem_of_getElem? (i := 9) rfl))) Via.refl e49 Fl_44 (g := (mkF m 39 #[.val (.ref mo), .val (.int x)] [(.ref mo), (.int x), (.ref b1)])) rfl rfl (hb hby d3_39)
    refine Go.back (f' := (mkF m 42 #[.val (.ref mo), .val (.int x)] [(.int st), (.int x), (.ref b1)])) st50 ?_
    refine Go.stI Ar_47 X50 hx hZ e50 (hb hby d3_42) (i := i) hi (by simp; omega) ?_
    intro T51 h51 X51 e51 W51 V51
    have Ex_52 := Ex_43.wr W51
    have Fl_53 := Fl_44.other W51 (Or.inl ne_mo_b1)
    have Fl_54 := Fl_45.other W51 (Or.inl ne_mo_b1)
    have Ar_55 := Ar_46.other W51 ne_arr_b1
    have K_56 := K_48.wr W51 (Or.inr sz_b1) g_b1
    show GoG _ _ _ _ _ (mkF m 43 #[.val (.ref mo), .val (.int x)] [])
    exact Go.ret0 X51 hx hret hlk (hb hby d3_43) (by (try rw [e51]); exact ⟨rfl, K_56, b1, Or.inr sz_b1, Ex_52, Fl_53, Fl_54, V51.to (by rw [addL_out st hl, List.map_set, List.map_append, List.map_replicate])⟩) (by decide) (by decide)
theorem ef_rmClr (m : MethodId) (x0 : Addr) : entryFrame m #[(.ref x0)] 1 = mkF m 0 #[.val (.ref x0)] [] := by first | (simp [entryFrame, mkF, argsToLocals, Value.category]; done) | rfl
set_option maxRecDepth 65536 in
set_option maxHeartbeats 40000000 in
theorem rmClr (l : Launch) (Z : State) (a0 : Array Value) (hw : ∀ d ∈ tables_1, d.before a0 Z = true) (mo arr : Addr) (st : Int32) (is : List Int32) (n0 : Nat) (h0 : Heap) (Z0 : n0 ≤ h0.size) (R0 : MR Z h0 mo arr st is) (s1 : 1 ≤ st.toInt) (s3 : st.toInt ≤ 3) (g_mo : n0 ≤ mo) (g_arr : n0 ≤ arr) :
    Met l Z (⟨"com/example/mu_tableau/mutableau/engine/Marks", "clear", "()V"⟩ : MethodName) prog_51_method_5_code 1 none ({ frames := 0, cells := 0, slots := 0, locals := 0 } : Room) #[(.ref mo)] h0 (fun v h L => v = none ∧ Chg n0 h0 h [mo, arr] L ∧ MR Z h mo arr (st + 1) is) := by
  refine Met.intro (plainFor_of_name (by first | (simp [plainName, overriddenIn]; done) | decide +kernel)) ?_
  intro p e s m below meth c T0 hx hby hml hown hnm hret hlk hZ X0 e0
  refine Go.cast (ef_rmClr m mo) ?_
  obtain ⟨Ex, F1, F2, A⟩ := R0
  have ne_mo_arr : mo ≠ arr := A.exa_ne Ex (hw _ (List.mem_of_getElem? (i := 1) rfl))
  have K0 : Chg n0 h0 h0 [mo, arr] [] := Chg.refl Z0
  have hN : is.length < 2147483648 := by have := A.len; rwa [List.length_map] at this
  refine Go.back (f' := (mkF m 1 #[.val (.ref mo)] [(.ref mo)])) (fun _ k => XS.aloadN X0.here hx rfl (hb hby d7_0) rfl rfl k) ?_
  refine Go.back (f' := (mkF m 2 #[.val (.ref mo)] [(.ref mo), (.ref mo)])) (fun _ k => XS.dup X0.here hx rfl (hb hby d7_1) rfl rfl k) ?_
  obtain ⟨T57, X57, e57, st57⟩ := getF X0 hx hZ hown (host := "") (Or.inl (hw _ (List.mem_of_getElem? (i := 9) rfl))) Via.refl e0 F1 (g := (mkF m 2 #[.val (.ref mo)] [(.ref mo), (.ref mo)])) rfl rfl (hb hby d7_2)
  refine Go.back (f' := (mkF m 5 #[.val (.ref mo)] [(.int st), (.ref mo)])) st57 ?_
  refine Go.back (f' := (mkF m 6 #[.val (.ref mo)] [(.int (1 : Int32)), (.int st), (.ref mo)])) (fun _ k => XS.iconst X57.here hx rfl (hb hby d7_5) k) ?_
  refine Go.back (f' := (mkF m 7 #[.val (.ref mo)] [(.int (st + (1 : Int32))), (.ref mo)])) (fun _ k => XS.iadd X57.here hx rfl (hb hby d7_6) rfl k) ?_
  obtain ⟨T58, h58, X58, e58, W58, st58⟩ := putF X57 hx hZ hown (host := "") (Or.inl (hw _ (List.mem_of_getElem? (i := 9) rfl))) Via.refl e57 F1 Ex (Or.inl (hw _ (List.mem_of_getElem? (i := 10) rfl))) (hw _ (List.mem_of_getElem? (i := 1) rfl)) (ty := .int) (by decide) rfl rfl (g := (mkF m 7 #[.val (.ref mo)] [(.int (st + (1 : Int32))), (.ref mo)])) rfl rfl (hb hby d7_7)
  refine Go.back (f' := (mkF m 10 #[.val (.ref mo)] [])) st58 ?_
  have Ex_59 := Ex.wr W58
  have Fl_60 := F1.same W58
  have Fl_61 := F2.other W58 (Or.inr (slot_ne (Or.inl (hw _ (List.mem_of_getElem? (i := 13) rfl))) (Or.inl (hw _ (List.mem_of_getElem? (i := 10) rfl))) (by decide) (t := (.array .int)) (t' := .int) (by decide) (by decide)))
  have Ar_62 := A.other W58 (Ne.symm ne_mo_arr)
  have K_63 := K0.wr W58 (Or.inl (List.mem_of_getElem? (i := 0) rfl)) g_mo
  refine Go.back (f' := (mkF m 11 #[.val (.ref mo)] [(.ref mo)])) (fun _ k => XS.aloadN X58.here hx rfl (hb hby d7_10) rfl rfl k) ?_
  obtain ⟨T64, X64, e64, st64⟩ := getF X58 hx hZ hown (host := "") (Or.inl (hw _ (List.mem_of_getElem? (i := 9) rfl))) Via.refl e58 Fl_60 (g := (mkF m 11 #[.val (.ref mo)] [(.ref mo)])) rfl rfl (hb hby d7_11)
  refine Go.back (f' := (mkF m 14 #[.val (.ref mo)] [(.int (st + (1 : Int32)))])) st64 ?_
  refine Go.back (f' := (mkF m 16 #[.val (.ref mo)] [(.int (2147483647 : Int32)), (.int (st + (1 : Int32)))])) (fun _ k => X64.ldcInt hx hown (mvT hZ (hw _ (List.mem_of_getElem? (i := 39) rfl))) (g := (mkF m 14 #[.val (.ref mo)] [(.int (st + (1 : Int32)))])) rfl (hb hby d7_14) _ k) ?_
  refine Go.back (f' := (mkF m 32 #[.val (.ref mo)] [])) (fun _ k => XS.icmpYes X64.here hx rfl (pc0 := 16) (pc' := 32) rfl (hb hby d7_16) rfl (feq (fun q => by have := own_inc s1 s3; rw [q] at this; have e : (2147483647 : Int32).toInt = 2147483647 := rfl; omega)).2 (by decide) (by decide) k) ?_
  exact Go.ret0 X64 hx hret hlk (hb hby d7_32) (by (try rw [e64]); exact ⟨rfl, K_63, Ex_59, Fl_60, Fl_61, Ar_62⟩) (Nat.zero_le _) (Nat.zero_le _)
theorem ef_rmCon (m : MethodId) (x0 : Addr) (x1 : Int32) : entryFrame m #[(.ref x0), (.int x1)] 2 = mkF m 0 #[.val (.ref x0), .val (.int x1)] [] := by first | (simp [entryFrame, mkF, argsToLocals, Value.category]; done) | rfl
set_option maxRecDepth 65536 in
set_option maxHeartbeats 40000000 in
theorem rmCon (l : Launch) (Z : State) (a0 : Array Value) (hw : ∀ d ∈ tables_1, d.before a0 Z = true) (mo arr : Addr) (st x : Int32) (is : List Int32) (i n0 : Nat) (h0 : Heap) (Z0 : n0 ≤ h0.size) (R0 : MR Z h0 mo arr st is) (hi : x.toInt = i) :
    Met l Z (⟨"com/example/mu_tableau/mutableau/engine/Marks", "contains", "(I)Z"⟩ : MethodName) prog_51_method_4_code 2 (some .boolean) ({ frames := 0, cells := 0, slots := 0, locals := 0 } : Room) #[(.ref mo), (.int x)] h0 (fun v h L => ∃ g : Int32, v = some (.int g) ∧ (g = 0 ∨ g = 1) ∧ (g = 1 ↔ is[i]? = some st) ∧ L = [] ∧ h = h0) := by
  refine Met.intro (plainFor_of_name (by first | (simp [plainName, overriddenIn]; done) | decide +kernel)) ?_
  intro p e s m below meth c T0 hx hby hml hown hnm hret hlk hZ X0 e0
  refine Go.cast (ef_rmCon m mo x) ?_
  obtain ⟨Ex, F1, F2, A⟩ := R0
  have ne_mo_arr : mo ≠ arr := A.exa_ne Ex (hw _ (List.mem_of_getElem? (i := 1) rfl))
  have K0 : Chg n0 h0 h0 [mo, arr] [] := Chg.refl Z0
  have hN : is.length < 2147483648 := by have := A.len; rwa [List.length_map] at this
  refine Go.back (f' := (mkF m 1 #[.val (.ref mo), .val (.int x)] [(.int x)])) (fun _ k => XS.iloadN X0.here hx rfl (hb hby d8_0) rfl k) ?_
  refine Go.back (f' := (mkF m 2 #[.val (.ref mo), .val (.int x)] [(.ref mo), (.int x)])) (fun _ k => XS.aloadN X0.here hx rfl (hb hby d8_1) rfl rfl k) ?_
  obtain ⟨T65, X65, e65, st65⟩ := getF X0 hx hZ hown (host := "") (Or.inl (hw _ (List.mem_of_getElem? (i := 12) rfl))) Via.refl e0 F2 (g := (mkF m 2 #[.val (.ref mo), .val (.int x)] [(.ref mo), (.int x)])) rfl rfl (hb hby d8_2)
  refine Go.back (f' := (mkF m 5 #[.val (.ref mo), .val (.int x)] [(.ref arr), (.int x)])) st65 ?_
  refine Go.back (f' := (mkF m 6 #[.val (.ref mo), .val (.int x)] [(.int ((is.map Value.int)).length.toInt32), (.int x)])) (A.lenS X65 hx hZ e65 (hb hby d8_5)) ?_
  rw [List.length_map]
  show GoG _ _ _ _ _ (mkF m 6 #[.val (.ref mo), .val (.int x)] [(.int is.length.toInt32), (.int x)])
  by_cases hc : x < is.length.toInt32
  · refine Go.back (f' := (mkF m 9 #[.val (.ref mo), .val (.int x)] [])) (fun _ k => XS.icmpNo X65.here hx rfl (hb hby d8_6) rfl (tlt hc).2.1 k) ?_
    have hl := (own_lt32 hi hN).mp hc
    refine Go.back (f' := (mkF m 10 #[.val (.ref mo), .val (.int x)] [(.ref mo)])) (fun _ k => XS.aloadN X65.here hx rfl (hb hby d8_9) rfl rfl k) ?_
    obtain ⟨T66, X66, e66, st66⟩ := getF X65 hx hZ hown (host := "") (Or.inl (hw _ (List.mem_of_getElem? (i := 12) rfl))) Via.refl e65 F2 (g := (mkF m 10 #[.val (.ref mo), .val (.int x)] [(.ref mo)])) rfl rfl (hb hby d8_10)
    refine Go.back (f' := (mkF m 13 #[.val (.ref mo), .val (.int x)] [(.ref arr)])) st66 ?_
    refine Go.back (f' := (mkF m 14 #[.val (.ref mo), .val (.int x)] [(.int x), (.ref arr)])) (fun _ k => XS.iloadN X66.here hx rfl (hb hby d8_13) rfl k) ?_
    refine Go.back (f' := (mkF m 15 #[.val (.ref mo), .val (.int x)] [(.int is[i])])) (A.ldI X66 hx hZ e66 (hb hby d8_14) (i := i) hi (by rw [List.getElem?_map, List.getElem?_eq_getElem hl]; rfl)) ?_
    refine Go.back (f' := (mkF m 16 #[.val (.ref mo), .val (.int x)] [(.ref mo), (.int is[i])])) (fun _ k => XS.aloadN X66.here hx rfl (hb hby d8_15) rfl rfl k) ?_
    obtain ⟨T67, X67, e67, st67⟩ := getF X66 hx hZ hown (host := "") (Or.inl (hw _ (List.mem_of_getElem? (i := 9) rfl))) Via.refl e66 F1 (g := (mkF m 16 #[.val (.ref mo), .val (.int x)] [(.ref mo), (.int is[i])])) rfl rfl (hb hby d8_16)
    refine Go.back (f' := (mkF m 19 #[.val (.ref mo), .val (.int x)] [(.int st), (.int is[i])])) st67 ?_
    by_cases he : is[i] = st
    · refine Go.back (f' := (mkF m 22 #[.val (.ref mo), .val (.int x)] [])) (fun _ k => XS.icmpNo X67.here hx rfl (hb hby d8_19) rfl (teq he).2 k) ?_
      refine Go.back (f' := (mkF m 23 #[.val (.ref mo), .val (.int x)] [(.int (1 : Int32))])) (fun _ k => XS.iconst X67.here hx rfl (hb hby d8_22) k) ?_
      refine Go.back (f' := (mkF m 27 #[.val (.ref mo), .val (.int x)] [(.int (1 : Int32))])) (fun _ k => XS.goto X67.here hx rfl (pc0 := 23) (pc' := 27) rfl (hb hby d8_23) (by decide) (by decide) k) ?_
      exact Go.retN X67 hx (t := .boolean) hret (by simp) (w := (1 : Int32)) rfl hlk (hb hby d8_27) (by (try rw [e67]); exact ⟨1, rfl, Or.inr rfl, ⟨fun _ => by rw [List.getElem?_eq_getElem hl, he], fun _ => rfl⟩, rfl, rfl⟩) (Nat.zero_le _) (Nat.zero_le _)
    · refine Go.back (f' := (mkF m 26 #[.val (.ref mo), .val (.int x)] [])) (fun _ k => XS.icmpYes X67.here hx rfl (pc0 := 19) (pc' := 26) rfl (hb hby d8_19) rfl (feq he).2 (by decide) (by decide) k) ?_
      refine Go.back (f' := (mkF m 27 #[.val (.ref mo), .val (.int x)] [(.int (0 : Int32))])) (fun _ k => XS.iconst X67.here hx rfl (hb hby d8_26) k) ?_
      exact Go.retN X67 hx (t := .boolean) hret (by simp) (w := (0 : Int32)) rfl hlk (hb hby d8_27) (by (try rw [e67]); exact ⟨0, rfl, Or.inl rfl, ⟨fun q => absurd q (by decide), fun q => by rw [List.getElem?_eq_getElem hl] at q; exact absurd (Option.some.inj q) he⟩, rfl, rfl⟩) (Nat.zero_le _) (Nat.zero_le _)
  · refine Go.back (f' := (mkF m 26 #[.val (.ref mo), .val (.int x)] [])) (fun _ k => XS.icmpYes X65.here hx rfl (pc0 := 6) (pc' := 26) rfl (hb hby d8_6) rfl (flt hc).2.1 (by decide) (by decide) k) ?_
    have hl : ¬ i < is.length := fun q => hc ((own_lt32 hi hN).mpr q)
    refine Go.back (f' := (mkF m 27 #[.val (.ref mo), .val (.int x)] [(.int (0 : Int32))])) (fun _ k => XS.iconst X65.here hx rfl (hb hby d8_26) k) ?_
    exact Go.retN X65 hx (t := .boolean) hret (by simp) (w := (0 : Int32)) rfl hlk (hb hby d8_27) (by (try rw [e65]); exact ⟨0, rfl, Or.inl rfl, ⟨fun q => absurd q (by decide), fun q => by rw [List.getElem?_eq_none (by omega)] at q; cases q⟩, rfl, rfl⟩) (Nat.zero_le _) (Nat.zero_le _)
theorem ef_rmRem (m : MethodId) (x0 : Addr) (x1 : Int32) : entryFrame m #[(.ref x0), (.int x1)] 2 = mkF m 0 #[.val (.ref x0), .val (.int x1)] [] := by first | (simp [entryFrame, mkF, argsToLocals, Value.category]; done) | rfl
set_option maxRecDepth 65536 in
set_option maxHeartbeats 40000000 in
theorem rmRem (l : Launch) (Z : State) (a0 : Array Value) (hw : ∀ d ∈ tables_1, d.before a0 Z = true) (mo arr : Addr) (st x : Int32) (is : List Int32) (i n0 : Nat) (h0 : Heap) (Z0 : n0 ≤ h0.size) (R0 : MR Z h0 mo arr st is) (hi : x.toInt = i) (g_mo : n0 ≤ mo) (g_arr : n0 ≤ arr) :
    Met l Z (⟨"com/example/mu_tableau/mutableau/engine/Marks", "remove", "(I)V"⟩ : MethodName) prog_51_method_3_code 2 none ({ frames := 0, cells := 0, slots := 0, locals := 0 } : Room) #[(.ref mo), (.int x)] h0 (fun v h L => v = none ∧ Chg n0 h0 h [mo, arr] L ∧ MR Z h mo arr st (is.set i 0)) := by
  refine Met.intro (plainFor_of_name (by first | (simp [plainName, overriddenIn]; done) | decide +kernel)) ?_
  intro p e s m below meth c T0 hx hby hml hown hnm hret hlk hZ X0 e0
  refine Go.cast (ef_rmRem m mo x) ?_
  obtain ⟨Ex, F1, F2, A⟩ := R0
  have ne_mo_arr : mo ≠ arr := A.exa_ne Ex (hw _ (List.mem_of_getElem? (i := 1) rfl))
  have K0 : Chg n0 h0 h0 [mo, arr] [] := Chg.refl Z0
  have hN : is.length < 2147483648 := by have := A.len; rwa [List.length_map] at this
  refine Go.back (f' := (mkF m 1 #[.val (.ref mo), .val (.int x)] [(.int x)])) (fun _ k => XS.iloadN X0.here hx rfl (hb hby d9_0) rfl k) ?_
  refine Go.back (f' := (mkF m 2 #[.val (.ref mo), .val (.int x)] [(.ref mo), (.int x)])) (fun _ k => XS.aloadN X0.here hx rfl (hb hby d9_1) rfl rfl k) ?_
  obtain ⟨T68, X68, e68, st68⟩ := getF X0 hx hZ hown (host := "") (Or.inl (hw _ (List.mem_of_getElem? (i := 12) rfl))) Via.refl e0 F2 (g := (mkF m 2 #[.val (.ref mo), .val (.int x)] [(.ref mo), (.int x)])) rfl rfl (hb hby d9_2)
  refine Go.back (f' := (mkF m 5 #[.val (.ref mo), .val (.int x)] [(.ref arr), (.int x)])) st68 ?_
  refine Go.back (f' := (mkF m 6 #[.val (.ref mo), .val (.int x)] [(.int ((is.map Value.int)).length.toInt32), (.int x)])) (A.lenS X68 hx hZ e68 (hb hby d9_5)) ?_
  rw [List.length_map]
  show GoG _ _ _ _ _ (mkF m 6 #[.val (.ref mo), .val (.int x)] [(.int is.length.toInt32), (.int x)])
  by_cases hc : x < is.length.toInt32
  · refine Go.back (f' := (mkF m 9 #[.val (.ref mo), .val (.int x)] [])) (fun _ k => XS.icmpNo X68.here hx rfl (hb hby d9_6) rfl (tlt hc).2.1 k) ?_
    have hl := (own_lt32 hi hN).mp hc
    refine Go.back (f' := (mkF m 10 #[.val (.ref mo), .val (.int x)] [(.ref mo)])) (fun _ k => XS.aloadN X68.here hx rfl (hb hby d9_9) rfl rfl k) ?_
    obtain ⟨T69, X69, e69, st69⟩ := getF X68 hx hZ hown (host := "") (Or.inl (hw _ (List.mem_of_getElem? (i := 12) rfl))) Via.refl e68 F2 (g := (mkF m 10 #[.val (.ref mo), .val (.int x)] [(.ref mo)])) rfl rfl (hb hby d9_10)
    refine Go.back (f' := (mkF m 13 #[.val (.ref mo), .val (.int x)] [(.ref arr)])) st69 ?_
    refine Go.back (f' := (mkF m 14 #[.val (.ref mo), .val (.int x)] [(.int x), (.ref arr)])) (fun _ k => XS.iloadN X69.here hx rfl (hb hby d9_13) rfl k) ?_
    refine Go.back (f' := (mkF m 15 #[.val (.ref mo), .val (.int x)] [(.int (0 : Int32)), (.int x), (.ref arr)])) (fun _ k => XS.iconst X69.here hx rfl (hb hby d9_14) k) ?_
    refine Go.stI A X69 hx hZ e69 (hb hby d9_15) (i := i) hi (by rw [List.length_map]; exact hl) ?_
    intro T70 h70 X70 e70 W70 V70
    have Ex_71 := Ex.wr W70
    have Fl_72 := F1.other W70 (Or.inl ne_mo_arr)
    have Fl_73 := F2.other W70 (Or.inl ne_mo_arr)
    have K_74 := K0.wr W70 (Or.inl (List.mem_of_getElem? (i := 1) rfl)) g_arr
    show GoG _ _ _ _ _ (mkF m 16 #[.val (.ref mo), .val (.int x)] [])
    exact Go.ret0 X70 hx hret hlk (hb hby d9_16) (by (try rw [e70]); exact ⟨rfl, K_74, Ex_71, Fl_72, Fl_73, V70.to (by rw [List.map_set])⟩) (Nat.zero_le _) (Nat.zero_le _)
  · refine Go.back (f' := (mkF m 16 #[.val (.ref mo), .val (.int x)] [])) (fun _ k => XS.icmpYes X68.here hx rfl (pc0 := 6) (pc' := 16) rfl (hb hby d9_6) rfl (flt hc).2.1 (by decide) (by decide) k) ?_
    have hl : ¬ i < is.length := fun q => hc ((own_lt32 hi hN).mpr q)
    exact Go.ret0 X68 hx hret hlk (hb hby d9_16) (by (try rw [e68]); exact ⟨rfl, K0, Ex, F1, F2, A.to (by rw [List.set_eq_of_length_le (by omega)])⟩) (Nat.zero_le _) (Nat.zero_le _)

/-- where the law stands between two calls: the object's own set is S -/
def Inv (Z : State) (h0 h : Heap) (mo arr : Addr) (st : Int32) (is : List Int32) (L : List Loc) (b : Int) (S : Nat → Prop) : Prop :=
  MR Z h mo arr st is ∧ Chg h0.size h0 h [] L ∧ h0.size ≤ mo ∧ h0.size ≤ arr ∧ is.length ≤ 30 ∧ 1 ≤ st.toInt ∧ st.toInt ≤ b ∧ (∀ v ∈ is, v.toInt ≤ st.toInt) ∧ ∀ q, is[q]? = some st ↔ S q
section InvLaws
variable {Z : State} {h0 h h' : Heap} {mo arr arr' : Addr} {st : Int32} {is : List Int32} {L L' : List Loc} {b : Int} {S S' : Nat → Prop} {i : Nat}
theorem Inv.congr (I : Inv Z h0 h mo arr st is L b S) (q : ∀ k, S k ↔ S' k) : Inv Z h0 h mo arr st is L b S' := by
  obtain ⟨a1, a2, a3, a4, a5, a6, a7, a8, a9⟩ := I; exact ⟨a1, a2, a3, a4, a5, a6, a7, a8, fun k => (a9 k).trans (q k)⟩
theorem Inv.wk {b' : Int} (I : Inv Z h0 h mo arr st is L b S) (q : b ≤ b') : Inv Z h0 h mo arr st is L b' S := by
  obtain ⟨a1, a2, a3, a4, a5, a6, a7, a8, a9⟩ := I; exact ⟨a1, a2, a3, a4, a5, a6, by omega, a8, a9⟩
theorem Inv.ini (R0 : MR Z h mo arr 1 (List.replicate i 0)) (K : Chg h0.size h0 h [] L) (s1 : h0.size ≤ mo) (s2 : h0.size ≤ arr) (q : i ≤ 7) : Inv Z h0 h mo arr 1 (List.replicate i 0) L 1 (fun _ => False) := by
  refine ⟨R0, K, s1, s2, by simp; omega, by decide, by decide, fun v hv => ?_, fun k => ?_⟩
  · rw [(List.mem_replicate.mp hv).2]; decide
  · rw [List.getElem?_replicate]; constructor
    · intro w; split at w
      · exact absurd (Option.some.inj w) (by decide)
      · cases w
    · exact fun w => w.elim
theorem Inv.two (I : Inv Z h0 h mo arr st is L b S) : ∀ x ∈ [mo, arr], x ∈ ([] : List Addr) ∨ h0.size ≤ x := allS (Or.inr I.2.2.1) (allS (Or.inr I.2.2.2.1) all0)
theorem Inv.add (I : Inv Z h0 h mo arr st is L b S) (C : Chg h0.size h h' [mo, arr] L') (q : arr' = arr ∨ h.size ≤ arr') (R0 : MR Z h' mo arr' st (addL is i st)) (i16 : i < 16) : Inv Z h0 h' mo arr' st (addL is i st) (L ++ L') b (fun k => k = i ∨ S k) := by
  have I' := I
  obtain ⟨a1, a2, a3, a4, a5, a6, a7, a8, a9⟩ := I
  refine ⟨R0, a2.call C I'.two, a3, ?_, addL_len st i16 a5, a6, a7, addL_le (by omega) a8, fun k => (addL_mem (own_st0 a6) k).trans (or_congr Iff.rfl (a9 k))⟩
  rcases q with rfl | q
  · exact a4
  · exact Nat.le_trans a2.grow q
theorem Inv.clr (I : Inv Z h0 h mo arr st is L b S) (C : Chg h0.size h h' [mo, arr] L') (R0 : MR Z h' mo arr (st + 1) is) (q : b ≤ 3) : Inv Z h0 h' mo arr (st + 1) is (L ++ L') (b + 1) (fun _ => False) := by
  have I' := I
  obtain ⟨a1, a2, a3, a4, a5, a6, a7, a8, a9⟩ := I
  have e := own_inc a6 (by omega)
  refine ⟨R0, a2.call C I'.two, a3, a4, a5, by omega, by omega, fun v hv => by have := a8 v hv; omega, fun k => ⟨fun w => ?_, fun w => w.elim⟩⟩
  have := a8 _ (List.mem_of_getElem? w)
  omega
theorem Inv.rem (I : Inv Z h0 h mo arr st is L b S) (C : Chg h0.size h h' [mo, arr] L') (R0 : MR Z h' mo arr st (is.set i 0)) : Inv Z h0 h' mo arr st (is.set i 0) (L ++ L') b (fun k => S k ∧ ¬ k = i) := by
  have I' := I
  obtain ⟨a1, a2, a3, a4, a5, a6, a7, a8, a9⟩ := I
  exact ⟨R0, a2.call C I'.two, a3, a4, by simpa using a5, a6, a7, rem_le (by omega) a8, fun k => (rem_mem (own_st0 a6) k).trans (and_congr (a9 k) Iff.rfl)⟩
end InvLaws
theorem own_m7 (a : Int32) : ∃ i : Nat, (a &&& (7 : Int32)).toInt = i ∧ i ≤ 7 := by
  have q : (a &&& (7 : Int32)).toInt = a.toInt % (2 ^ 3 : Nat) := c_mask a 7 3 (by decide) (by decide)
  exact ⟨(a &&& (7 : Int32)).toInt.toNat, by omega, by omega⟩
theorem own_m15 (a : Int32) : ∃ i : Nat, (a &&& (15 : Int32)).toInt = i ∧ i < 16 := by
  have q : (a &&& (15 : Int32)).toInt = a.toInt % (2 ^ 4 : Nat) := c_mask a 15 4 (by decide) (by decide)
  exact ⟨(a &&& (15 : Int32)).toInt.toNat, by omega, by omega⟩
theorem own_mM (a : Int32) : ∃ i : Nat, (a &&& (2147483647 : Int32)).toInt = i := by
  have q : (a &&& (2147483647 : Int32)).toInt = a.toInt % (2 ^ 31 : Nat) := c_mask a 2147483647 31 (by decide) (by decide)
  exact ⟨(a &&& (2147483647 : Int32)).toInt.toNat, by omega⟩
theorem own_eq {x y : Int32} {i j : Nat} (hx : x.toInt = i) (hy : y.toInt = j) : x = y ↔ i = j := by
  rw [← Int32.toInt_inj, hx, hy]; omega
theorem own_b2 {g e : Int32} (h1 : g = 0 ∨ g = 1) (h2 : e = 0 ∨ e = 1) (q : g = 1 ↔ e = 1) : g = e := by
  rcases h1 with rfl | rfl <;> rcases h2 with rfl | rfl
  · rfl
  · exact absurd (q.mpr rfl) (by decide)
  · exact absurd (q.mp rfl) (by decide)
  · rfl

theorem ef_rm0 (m : MethodId) (x0 : Int32) (x1 : Int32) (x2 : Int32) (x3 : Int32) (x4 : Int32) (x5 : Int32) : entryFrame m #[(.int x0), (.int x1), (.int x2), (.int x3), (.int x4), (.int x5)] maxLocals = mkF m 0 #[.val (.int x0), .val (.int x1), .val (.int x2), .val (.int x3), .val (.int x4), .val (.int x5), .unset, .unset, .unset, .unset, .unset, .unset, .unset, .unset, .unset, .unset, .unset, .unset, .unset, .unset] [] := by first | (simp [entryFrame, mkF, argsToLocals, Value.category, maxLocals]; done) | rfl
set_option maxRecDepth 65536 in
set_option maxHeartbeats 40000000 in
theorem rm0 (l : Launch) (Z : State) (a0 : Array Value) (hw : ∀ d ∈ tables_1, d.before a0 Z = true) (sz aa bb cc pp ff : Int32) (h0 : Heap)  :
    Met l Z x code maxLocals ret room_1 #[(.int sz), (.int aa), (.int bb), (.int cc), (.int pp), (.int ff)] h0 (fun v h L => v = some (.int 1) ∧ Fr h0.size L) := by
  refine Met.intro (plainFor_of_name (by first | (simp [plainName, overriddenIn]; done) | decide +kernel)) ?_
  intro p e s m below meth c T0 hx hby hml hown hnm hret hlk hZ X0 e0
  refine Go.cast (ef_rm0 m sz aa bb cc pp ff) ?_
  have hml : c.maxLocals = 20 := hml
  refine Go.back (f' := (mkF m 1 #[.val (.int sz), .val (.int aa), .val (.int bb), .val (.int cc), .val (.int pp), .val (.int ff), .unset, .unset, .unset, .unset, .unset, .unset, .unset, .unset, .unset, .unset, .unset, .unset, .unset, .unset] [(.int sz)])) (fun _ k => XS.iloadN X0.here hx rfl (hb hby at_0) rfl k) ?_
  refine Go.back (f' := (mkF m 3 #[.val (.int sz), .val (.int aa), .val (.int bb), .val (.int cc), .val (.int pp), .val (.int ff), .unset, .unset, .unset, .unset, .unset, .unset, .unset, .unset, .unset, .unset, .unset, .unset, .unset, .unset] [(.int (7 : Int32)), (.int sz)])) (fun _ k => XS.bipush X0.here hx rfl (hb hby at_1) k) ?_
  refine Go.back (f' := (mkF m 4 #[.val (.int sz), .val (.int aa), .val (.int bb), .val (.int cc), .val (.int pp), .val (.int ff), .unset, .unset, .unset, .unset, .unset, .unset, .unset, .unset, .unset, .unset, .unset, .unset, .unset, .unset] [(.int (sz &&& (7 : Int32)))])) (fun _ k => XS.iand X0.here hx rfl (hb hby at_3) rfl k) ?_
  refine Go.back (f' := (mkF m 6 #[.val (.int sz), .val (.int aa), .val (.int bb), .val (.int cc), .val (.int pp), .val (.int ff), .val (.int (sz &&& (7 : Int32))), .unset, .unset, .unset, .unset, .unset, .unset, .unset, .unset, .unset, .unset, .unset, .unset, .unset] [])) (fun _ k => XS.istore X0.here hx rfl (hb hby at_4) rfl (l' := #[.val (.int sz), .val (.int aa), .val (.int bb), .val (.int cc), .val (.int pp), .val (.int ff), .val (.int (sz &&& (7 : Int32))), .unset, .unset, .unset, .unset, .unset, .unset, .unset, .unset, .unset, .unset, .unset, .unset, .unset]) rfl k) ?_
  obtain ⟨ni, hni, n7⟩ := own_m7 sz
  generalize en : (sz &&& (7 : Int32)) = nn
  rw [en] at hni
  refine Go.back (f' := (mkF m 7 #[.val (.int sz), .val (.int aa), .val (.int bb), .val (.int cc), .val (.int pp), .val (.int ff), .val (.int nn), .unset, .unset, .unset, .unset, .unset, .unset, .unset, .unset, .unset, .unset, .unset, .unset, .unset] [(.int aa)])) (fun _ k => XS.iloadN X0.here hx rfl (hb hby at_6) rfl k) ?_
  refine Go.back (f' := (mkF m 9 #[.val (.int sz), .val (.int aa), .val (.int bb), .val (.int cc), .val (.int pp), .val (.int ff), .val (.int nn), .unset, .unset, .unset, .unset, .unset, .unset, .unset, .unset, .unset, .unset, .unset, .unset, .unset] [(.int (15 : Int32)), (.int aa)])) (fun _ k => XS.bipush X0.here hx rfl (hb hby at_7) k) ?_
  refine Go.back (f' := (mkF m 10 #[.val (.int sz), .val (.int aa), .val (.int bb), .val (.int cc), .val (.int pp), .val (.int ff), .val (.int nn), .unset, .unset, .unset, .unset, .unset, .unset, .unset, .unset, .unset, .unset, .unset, .unset, .unset] [(.int (aa &&& (15 : Int32)))])) (fun _ k => XS.iand X0.here hx rfl (hb hby at_9) rfl k) ?_
  refine Go.back (f' := (mkF m 12 #[.val (.int sz), .val (.int aa), .val (.int bb), .val (.int cc), .val (.int pp), .val (.int ff), .val (.int nn), .val (.int (aa &&& (15 : Int32))), .unset, .unset, .unset, .unset, .unset, .unset, .unset, .unset, .unset, .unset, .unset, .unset] [])) (fun _ k => XS.istore X0.here hx rfl (hb hby at_10) rfl (l' := #[.val (.int sz), .val (.int aa), .val (.int bb), .val (.int cc), .val (.int pp), .val (.int ff), .val (.int nn), .val (.int (aa &&& (15 : Int32))), .unset, .unset, .unset, .unset, .unset, .unset, .unset, .unset, .unset, .unset, .unset, .unset]) rfl k) ?_
  obtain ⟨xi, hx_, x16⟩ := own_m15 aa
  generalize exx : (aa &&& (15 : Int32)) = xx
  rw [exx] at hx_
  refine Go.back (f' := (mkF m 13 #[.val (.int sz), .val (.int aa), .val (.int bb), .val (.int cc), .val (.int pp), .val (.int ff), .val (.int nn), .val (.int xx), .unset, .unset, .unset, .unset, .unset, .unset, .unset, .unset, .unset, .unset, .unset, .unset] [(.int bb)])) (fun _ k => XS.iloadN X0.here hx rfl (hb hby at_12) rfl k) ?_
  refine Go.back (f' := (mkF m 15 #[.val (.int sz), .val (.int aa), .val (.int bb), .val (.int cc), .val (.int pp), .val (.int ff), .val (.int nn), .val (.int xx), .unset, .unset, .unset, .unset, .unset, .unset, .unset, .unset, .unset, .unset, .unset, .unset] [(.int (15 : Int32)), (.int bb)])) (fun _ k => XS.bipush X0.here hx rfl (hb hby at_13) k) ?_
  refine Go.back (f' := (mkF m 16 #[.val (.int sz), .val (.int aa), .val (.int bb), .val (.int cc), .val (.int pp), .val (.int ff), .val (.int nn), .val (.int xx), .unset, .unset, .unset, .unset, .unset, .unset, .unset, .unset, .unset, .unset, .unset, .unset] [(.int (bb &&& (15 : Int32)))])) (fun _ k => XS.iand X0.here hx rfl (hb hby at_15) rfl k) ?_
  refine Go.back (f' := (mkF m 18 #[.val (.int sz), .val (.int aa), .val (.int bb), .val (.int cc), .val (.int pp), .val (.int ff), .val (.int nn), .val (.int xx), .val (.int (bb &&& (15 : Int32))), .unset, .unset, .unset, .unset, .unset, .unset, .unset, .unset, .unset, .unset, .unset] [])) (fun _ k => XS.istore X0.here hx rfl (hb hby at_16) rfl (l' := #[.val (.int sz), .val (.int aa), .val (.int bb), .val (.int cc), .val (.int pp), .val (.int ff), .val (.int nn), .val (.int xx), .val (.int (bb &&& (15 : Int32))), .unset, .unset, .unset, .unset, .unset, .unset, .unset, .unset, .unset, .unset, .unset]) rfl k) ?_
  obtain ⟨yi, hy_, y16⟩ := own_m15 bb
  generalize eyy : (bb &&& (15 : Int32)) = yy
  rw [eyy] at hy_
  refine Go.back (f' := (mkF m 19 #[.val (.int sz), .val (.int aa), .val (.int bb), .val (.int cc), .val (.int pp), .val (.int ff), .val (.int nn), .val (.int xx), .val (.int yy), .unset, .unset, .unset, .unset, .unset, .unset, .unset, .unset, .unset, .unset, .unset] [(.int cc)])) (fun _ k => XS.iloadN X0.here hx rfl (hb hby at_18) rfl k) ?_
  refine Go.back (f' := (mkF m 21 #[.val (.int sz), .val (.int aa), .val (.int bb), .val (.int cc), .val (.int pp), .val (.int ff), .val (.int nn), .val (.int xx), .val (.int yy), .unset, .unset, .unset, .unset, .unset, .unset, .unset, .unset, .unset, .unset, .unset] [(.int (15 : Int32)), (.int cc)])) (fun _ k => XS.bipush X0.here hx rfl (hb hby at_19) k) ?_
  refine Go.back (f' := (mkF m 22 #[.val (.int sz), .val (.int aa), .val (.int bb), .val (.int cc), .val (.int pp), .val (.int ff), .val (.int nn), .val (.int xx), .val (.int yy), .unset, .unset, .unset, .unset, .unset, .unset, .unset, .unset, .unset, .unset, .unset] [(.int (cc &&& (15 : Int32)))])) (fun _ k => XS.iand X0.here hx rfl (hb hby at_21) rfl k) ?_
  refine Go.back (f' := (mkF m 24 #[.val (.int sz), .val (.int aa), .val (.int bb), .val (.int cc), .val (.int pp), .val (.int ff), .val (.int nn), .val (.int xx), .val (.int yy), .val (.int (cc &&& (15 : Int32))), .unset, .unset, .unset, .unset, .unset, .unset, .unset, .unset, .unset, .unset] [])) (fun _ k => XS.istore X0.here hx rfl (hb hby at_22) rfl (l' := #[.val (.int sz), .val (.int aa), .val (.int bb), .val (.int cc), .val (.int pp), .val (.int ff), .val (.int nn), .val (.int xx), .val (.int yy), .val (.int (cc &&& (15 : Int32))), .unset, .unset, .unset, .unset, .unset, .unset, .unset, .unset, .unset, .unset]) rfl k) ?_
  obtain ⟨zi, hz_, z16⟩ := own_m15 cc
  generalize ezz : (cc &&& (15 : Int32)) = zz
  rw [ezz] at hz_
  refine Go.back (f' := (mkF m 26 #[.val (.int sz), .val (.int aa), .val (.int bb), .val (.int cc), .val (.int pp), .val (.int ff), .val (.int nn), .val (.int xx), .val (.int yy), .val (.int zz), .unset, .unset, .unset, .unset, .unset, .unset, .unset, .unset, .unset, .unset] [(.int ff)])) (fun _ k => XS.iload X0.here hx rfl (hb hby at_24) rfl k) ?_
  refine Go.back (f' := (mkF m 27 #[.val (.int sz), .val (.int aa), .val (.int bb), .val (.int cc), .val (.int pp), .val (.int ff), .val (.int nn), .val (.int xx), .val (.int yy), .val (.int zz), .unset, .unset, .unset, .unset, .unset, .unset, .unset, .unset, .unset, .unset] [(.int (1 : Int32)), (.int ff)])) (fun _ k => XS.iconst X0.here hx rfl (hb hby at_26) k) ?_
  refine Go.back (f' := (mkF m 28 #[.val (.int sz), .val (.int aa), .val (.int bb), .val (.int cc), .val (.int pp), .val (.int ff), .val (.int nn), .val (.int xx), .val (.int yy), .val (.int zz), .unset, .unset, .unset, .unset, .unset, .unset, .unset, .unset, .unset, .unset] [(.int (ff &&& (1 : Int32)))])) (fun _ k => XS.iand X0.here hx rfl (hb hby at_27) rfl k) ?_
  suffices jd : ∀ b1 : Int32, b1 = (if (ff &&& (1 : Int32)) = 0 then (0 : Int32) else (1 : Int32)) → Go p e below s (fun v h L => v = some (.int 1) ∧ Fr h0.size L) room_1.cells room_1.slots T0 (mkF m 36 #[.val (.int sz), .val (.int aa), .val (.int bb), .val (.int cc), .val (.int pp), .val (.int ff), .val (.int nn), .val (.int xx), .val (.int yy), .val (.int zz), .unset, .unset, .unset, .unset, .unset, .unset, .unset, .unset, .unset, .unset] [(.int b1)]) by
    by_cases hp_b1 : (ff &&& (1 : Int32)) = 0
    · refine Go.back (f' := (mkF m 35 #[.val (.int sz), .val (.int aa), .val (.int bb), .val (.int cc), .val (.int pp), .val (.int ff), .val (.int nn), .val (.int xx), .val (.int yy), .val (.int zz), .unset, .unset, .unset, .unset, .unset, .unset, .unset, .unset, .unset, .unset] [])) (fun _ k => XS.ifYes X0.here hx rfl (pc0 := 28) (pc' := 35) rfl (hb hby at_28) rfl ((if0 _ _).trans (teq hp_b1).1) (by decide) (by decide) k) ?_
      refine Go.back (f' := (mkF m 36 #[.val (.int sz), .val (.int aa), .val (.int bb), .val (.int cc), .val (.int pp), .val (.int ff), .val (.int nn), .val (.int xx), .val (.int yy), .val (.int zz), .unset, .unset, .unset, .unset, .unset, .unset, .unset, .unset, .unset, .unset] [(.int (0 : Int32))])) (fun _ k => XS.iconst X0.here hx rfl (hb hby at_35) k) ?_
      exact jd _ (by rw [if_pos hp_b1])
    · refine Go.back (f' := (mkF m 31 #[.val (.int sz), .val (.int aa), .val (.int bb), .val (.int cc), .val (.int pp), .val (.int ff), .val (.int nn), .val (.int xx), .val (.int yy), .val (.int zz), .unset, .unset, .unset, .unset, .unset, .unset, .unset, .unset, .unset, .unset] [])) (fun _ k => XS.ifNo X0.here hx rfl (hb hby at_28) rfl ((if0 _ _).trans (feq hp_b1).1) k) ?_
      refine Go.back (f' := (mkF m 32 #[.val (.int sz), .val (.int aa), .val (.int bb), .val (.int cc), .val (.int pp), .val (.int ff), .val (.int nn), .val (.int xx), .val (.int yy), .val (.int zz), .unset, .unset, .unset, .unset, .unset, .unset, .unset, .unset, .unset, .unset] [(.int (1 : Int32))])) (fun _ k => XS.iconst X0.here hx rfl (hb hby at_31) k) ?_
      refine Go.back (f' := (mkF m 36 #[.val (.int sz), .val (.int aa), .val (.int bb), .val (.int cc), .val (.int pp), .val (.int ff), .val (.int nn), .val (.int xx), .val (.int yy), .val (.int zz), .unset, .unset, .unset, .unset, .unset, .unset, .unset, .unset, .unset, .unset] [(.int (1 : Int32))])) (fun _ k => XS.goto X0.here hx rfl (pc0 := 32) (pc' := 36) rfl (hb hby at_32) (by decide) (by decide) k) ?_
      exact jd _ (by rw [if_neg hp_b1])
  intro b1 h_b1
  refine Go.back (f' := (mkF m 38 #[.val (.int sz), .val (.int aa), .val (.int bb), .val (.int cc), .val (.int pp), .val (.int ff), .val (.int nn), .val (.int xx), .val (.int yy), .val (.int zz), .val (.int b1), .unset, .unset, .unset, .unset, .unset, .unset, .unset, .unset, .unset] [])) (fun _ k => XS.istore X0.here hx rfl (hb hby at_36) rfl (l' := #[.val (.int sz), .val (.int aa), .val (.int bb), .val (.int cc), .val (.int pp), .val (.int ff), .val (.int nn), .val (.int xx), .val (.int yy), .val (.int zz), .val (.int b1), .unset, .unset, .unset, .unset, .unset, .unset, .unset, .unset, .unset]) rfl k) ?_
  refine Go.back (f' := (mkF m 40 #[.val (.int sz), .val (.int aa), .val (.int bb), .val (.int cc), .val (.int pp), .val (.int ff), .val (.int nn), .val (.int xx), .val (.int yy), .val (.int zz), .val (.int b1), .unset, .unset, .unset, .unset, .unset, .unset, .unset, .unset, .unset] [(.int ff)])) (fun _ k => XS.iload X0.here hx rfl (hb hby at_38) rfl k) ?_
  refine Go.back (f' := (mkF m 41 #[.val (.int sz), .val (.int aa), .val (.int bb), .val (.int cc), .val (.int pp), .val (.int ff), .val (.int nn), .val (.int xx), .val (.int yy), .val (.int zz), .val (.int b1), .unset, .unset, .unset, .unset, .unset, .unset, .unset, .unset, .unset] [(.int (2 : Int32)), (.int ff)])) (fun _ k => XS.iconst X0.here hx rfl (hb hby at_40) k) ?_
  refine Go.back (f' := (mkF m 42 #[.val (.int sz), .val (.int aa), .val (.int bb), .val (.int cc), .val (.int pp), .val (.int ff), .val (.int nn), .val (.int xx), .val (.int yy), .val (.int zz), .val (.int b1), .unset, .unset, .unset, .unset, .unset, .unset, .unset, .unset, .unset] [(.int (ff &&& (2 : Int32)))])) (fun _ k => XS.iand X0.here hx rfl (hb hby at_41) rfl k) ?_
  suffices jd : ∀ b2 : Int32, b2 = (if (ff &&& (2 : Int32)) = 0 then (0 : Int32) else (1 : Int32)) → Go p e below s (fun v h L => v = some (.int 1) ∧ Fr h0.size L) room_1.cells room_1.slots T0 (mkF m 50 #[.val (.int sz), .val (.int aa), .val (.int bb), .val (.int cc), .val (.int pp), .val (.int ff), .val (.int nn), .val (.int xx), .val (.int yy), .val (.int zz), .val (.int b1), .unset, .unset, .unset, .unset, .unset, .unset, .unset, .unset, .unset] [(.int b2)]) by
    by_cases hp_b2 : (ff &&& (2 : Int32)) = 0
    · refine Go.back (f' := (mkF m 49 #[.val (.int sz), .val (.int aa), .val (.int bb), .val (.int cc), .val (.int pp), .val (.int ff), .val (.int nn), .val (.int xx), .val (.int yy), .val (.int zz), .val (.int b1), .unset, .unset, .unset, .unset, .unset, .unset, .unset, .unset, .unset] [])) (fun _ k => XS.ifYes X0.here hx rfl (pc0 := 42) (pc' := 49) rfl (hb hby at_42) rfl ((if0 _ _).trans (teq hp_b2).1) (by decide) (by decide) k) ?_
      refine Go.back (f' := (mkF m 50 #[.val (.int sz), .val (.int aa), .val (.int bb), .val (.int cc), .val (.int pp), .val (.int ff), .val (.int nn), .val (.int xx), .val (.int yy), .val (.int zz), .val (.int b1), .unset, .unset, .unset, .unset, .unset, .unset, .unset, .unset, .unset] [(.int (0 : Int32))])) (fun _ k => XS.iconst X0.here hx rfl (hb hby at_49) k) ?_
      exact jd _ (by rw [if_pos hp_b2])
    · refine Go.back (f' := (mkF m 45 #[.val (.int sz), .val (.int aa), .val (.int bb), .val (.int cc), .val (.int pp), .val (.int ff), .val (.int nn), .val (.int xx), .val (.int yy), .val (.int zz), .val (.int b1), .unset, .unset, .unset, .unset, .unset, .unset, .unset, .unset, .unset] [])) (fun _ k => XS.ifNo X0.here hx rfl (hb hby at_42) rfl ((if0 _ _).trans (feq hp_b2).1) k) ?_
      refine Go.back (f' := (mkF m 46 #[.val (.int sz), .val (.int aa), .val (.int bb), .val (.int cc), .val (.int pp), .val (.int ff), .val (.int nn), .val (.int xx), .val (.int yy), .val (.int zz), .val (.int b1), .unset, .unset, .unset, .unset, .unset, .unset, .unset, .unset, .unset] [(.int (1 : Int32))])) (fun _ k => XS.iconst X0.here hx rfl (hb hby at_45) k) ?_
      refine Go.back (f' := (mkF m 50 #[.val (.int sz), .val (.int aa), .val (.int bb), .val (.int cc), .val (.int pp), .val (.int ff), .val (.int nn), .val (.int xx), .val (.int yy), .val (.int zz), .val (.int b1), .unset, .unset, .unset, .unset, .unset, .unset, .unset, .unset, .unset] [(.int (1 : Int32))])) (fun _ k => XS.goto X0.here hx rfl (pc0 := 46) (pc' := 50) rfl (hb hby at_46) (by decide) (by decide) k) ?_
      exact jd _ (by rw [if_neg hp_b2])
  intro b2 h_b2
  refine Go.back (f' := (mkF m 52 #[.val (.int sz), .val (.int aa), .val (.int bb), .val (.int cc), .val (.int pp), .val (.int ff), .val (.int nn), .val (.int xx), .val (.int yy), .val (.int zz), .val (.int b1), .val (.int b2), .unset, .unset, .unset, .unset, .unset, .unset, .unset, .unset] [])) (fun _ k => XS.istore X0.here hx rfl (hb hby at_50) rfl (l' := #[.val (.int sz), .val (.int aa), .val (.int bb), .val (.int cc), .val (.int pp), .val (.int ff), .val (.int nn), .val (.int xx), .val (.int yy), .val (.int zz), .val (.int b1), .val (.int b2), .unset, .unset, .unset, .unset, .unset, .unset, .unset, .unset]) rfl k) ?_
  refine Go.back (f' := (mkF m 54 #[.val (.int sz), .val (.int aa), .val (.int bb), .val (.int cc), .val (.int pp), .val (.int ff), .val (.int nn), .val (.int xx), .val (.int yy), .val (.int zz), .val (.int b1), .val (.int b2), .unset, .unset, .unset, .unset, .unset, .unset, .unset, .unset] [(.int ff)])) (fun _ k => XS.iload X0.here hx rfl (hb hby at_52) rfl k) ?_
  refine Go.back (f' := (mkF m 55 #[.val (.int sz), .val (.int aa), .val (.int bb), .val (.int cc), .val (.int pp), .val (.int ff), .val (.int nn), .val (.int xx), .val (.int yy), .val (.int zz), .val (.int b1), .val (.int b2), .unset, .unset, .unset, .unset, .unset, .unset, .unset, .unset] [(.int (4 : Int32)), (.int ff)])) (fun _ k => XS.iconst X0.here hx rfl (hb hby at_54) k) ?_
  refine Go.back (f' := (mkF m 56 #[.val (.int sz), .val (.int aa), .val (.int bb), .val (.int cc), .val (.int pp), .val (.int ff), .val (.int nn), .val (.int xx), .val (.int yy), .val (.int zz), .val (.int b1), .val (.int b2), .unset, .unset, .unset, .unset, .unset, .unset, .unset, .unset] [(.int (ff &&& (4 : Int32)))])) (fun _ k => XS.iand X0.here hx rfl (hb hby at_55) rfl k) ?_
  suffices jd : ∀ b3 : Int32, b3 = (if (ff &&& (4 : Int32)) = 0 then (0 : Int32) else (1 : Int32)) → Go p e below s (fun v h L => v = some (.int 1) ∧ Fr h0.size L) room_1.cells room_1.slots T0 (mkF m 64 #[.val (.int sz), .val (.int aa), .val (.int bb), .val (.int cc), .val (.int pp), .val (.int ff), .val (.int nn), .val (.int xx), .val (.int yy), .val (.int zz), .val (.int b1), .val (.int b2), .unset, .unset, .unset, .unset, .unset, .unset, .unset, .unset] [(.int b3)]) by
    by_cases hp_b3 : (ff &&& (4 : Int32)) = 0
    · refine Go.back (f' := (mkF m 63 #[.val (.int sz), .val (.int aa), .val (.int bb), .val (.int cc), .val (.int pp), .val (.int ff), .val (.int nn), .val (.int xx), .val (.int yy), .val (.int zz), .val (.int b1), .val (.int b2), .unset, .unset, .unset, .unset, .unset, .unset, .unset, .unset] [])) (fun _ k => XS.ifYes X0.here hx rfl (pc0 := 56) (pc' := 63) rfl (hb hby at_56) rfl ((if0 _ _).trans (teq hp_b3).1) (by decide) (by decide) k) ?_
      refine Go.back (f' := (mkF m 64 #[.val (.int sz), .val (.int aa), .val (.int bb), .val (.int cc), .val (.int pp), .val (.int ff), .val (.int nn), .val (.int xx), .val (.int yy), .val (.int zz), .val (.int b1), .val (.int b2), .unset, .unset, .unset, .unset, .unset, .unset, .unset, .unset] [(.int (0 : Int32))])) (fun _ k => XS.iconst X0.here hx rfl (hb hby at_63) k) ?_
      exact jd _ (by rw [if_pos hp_b3])
    · refine Go.back (f' := (mkF m 59 #[.val (.int sz), .val (.int aa), .val (.int bb), .val (.int cc), .val (.int pp), .val (.int ff), .val (.int nn), .val (.int xx), .val (.int yy), .val (.int zz), .val (.int b1), .val (.int b2), .unset, .unset, .unset, .unset, .unset, .unset, .unset, .unset] [])) (fun _ k => XS.ifNo X0.here hx rfl (hb hby at_56) rfl ((if0 _ _).trans (feq hp_b3).1) k) ?_
      refine Go.back (f' := (mkF m 60 #[.val (.int sz), .val (.int aa), .val (.int bb), .val (.int cc), .val (.int pp), .val (.int ff), .val (.int nn), .val (.int xx), .val (.int yy), .val (.int zz), .val (.int b1), .val (.int b2), .unset, .unset, .unset, .unset, .unset, .unset, .unset, .unset] [(.int (1 : Int32))])) (fun _ k => XS.iconst X0.here hx rfl (hb hby at_59) k) ?_
      refine Go.back (f' := (mkF m 64 #[.val (.int sz), .val (.int aa), .val (.int bb), .val (.int cc), .val (.int pp), .val (.int ff), .val (.int nn), .val (.int xx), .val (.int yy), .val (.int zz), .val (.int b1), .val (.int b2), .unset, .unset, .unset, .unset, .unset, .unset, .unset, .unset] [(.int (1 : Int32))])) (fun _ k => XS.goto X0.here hx rfl (pc0 := 60) (pc' := 64) rfl (hb hby at_60) (by decide) (by decide) k) ?_
      exact jd _ (by rw [if_neg hp_b3])
  intro b3 h_b3
  refine Go.back (f' := (mkF m 66 #[.val (.int sz), .val (.int aa), .val (.int bb), .val (.int cc), .val (.int pp), .val (.int ff), .val (.int nn), .val (.int xx), .val (.int yy), .val (.int zz), .val (.int b1), .val (.int b2), .val (.int b3), .unset, .unset, .unset, .unset, .unset, .unset, .unset] [])) (fun _ k => XS.istore X0.here hx rfl (hb hby at_64) rfl (l' := #[.val (.int sz), .val (.int aa), .val (.int bb), .val (.int cc), .val (.int pp), .val (.int ff), .val (.int nn), .val (.int xx), .val (.int yy), .val (.int zz), .val (.int b1), .val (.int b2), .val (.int b3), .unset, .unset, .unset, .unset, .unset, .unset, .unset]) rfl k) ?_
  refine Go.back (f' := (mkF m 68 #[.val (.int sz), .val (.int aa), .val (.int bb), .val (.int cc), .val (.int pp), .val (.int ff), .val (.int nn), .val (.int xx), .val (.int yy), .val (.int zz), .val (.int b1), .val (.int b2), .val (.int b3), .unset, .unset, .unset, .unset, .unset, .unset, .unset] [(.int ff)])) (fun _ k => XS.iload X0.here hx rfl (hb hby at_66) rfl k) ?_
  refine Go.back (f' := (mkF m 70 #[.val (.int sz), .val (.int aa), .val (.int bb), .val (.int cc), .val (.int pp), .val (.int ff), .val (.int nn), .val (.int xx), .val (.int yy), .val (.int zz), .val (.int b1), .val (.int b2), .val (.int b3), .unset, .unset, .unset, .unset, .unset, .unset, .unset] [(.int (8 : Int32)), (.int ff)])) (fun _ k => XS.bipush X0.here hx rfl (hb hby at_68) k) ?_
  refine Go.back (f' := (mkF m 71 #[.val (.int sz), .val (.int aa), .val (.int bb), .val (.int cc), .val (.int pp), .val (.int ff), .val (.int nn), .val (.int xx), .val (.int yy), .val (.int zz), .val (.int b1), .val (.int b2), .val (.int b3), .unset, .unset, .unset, .unset, .unset, .unset, .unset] [(.int (ff &&& (8 : Int32)))])) (fun _ k => XS.iand X0.here hx rfl (hb hby at_70) rfl k) ?_
  suffices jd : ∀ b4 : Int32, b4 = (if (ff &&& (8 : Int32)) = 0 then (0 : Int32) else (1 : Int32)) → Go p e below s (fun v h L => v = some (.int 1) ∧ Fr h0.size L) room_1.cells room_1.slots T0 (mkF m 79 #[.val (.int sz), .val (.int aa), .val (.int bb), .val (.int cc), .val (.int pp), .val (.int ff), .val (.int nn), .val (.int xx), .val (.int yy), .val (.int zz), .val (.int b1), .val (.int b2), .val (.int b3), .unset, .unset, .unset, .unset, .unset, .unset, .unset] [(.int b4)]) by
    by_cases hp_b4 : (ff &&& (8 : Int32)) = 0
    · refine Go.back (f' := (mkF m 78 #[.val (.int sz), .val (.int aa), .val (.int bb), .val (.int cc), .val (.int pp), .val (.int ff), .val (.int nn), .val (.int xx), .val (.int yy), .val (.int zz), .val (.int b1), .val (.int b2), .val (.int b3), .unset, .unset, .unset, .unset, .unset, .unset, .unset] [])) (fun _ k => XS.ifYes X0.here hx rfl (pc0 := 71) (pc' := 78) rfl (hb hby at_71) rfl ((if0 _ _).trans (teq hp_b4).1) (by decide) (by decide) k) ?_
      refine Go.back (f' := (mkF m 79 #[.val (.int sz), .val (.int aa), .val (.int bb), .val (.int cc), .val (.int pp), .val (.int ff), .val (.int nn), .val (.int xx), .val (.int yy), .val (.int zz), .val (.int b1), .val (.int b2), .val (.int b3), .unset, .unset, .unset, .unset, .unset, .unset, .unset] [(.int (0 : Int32))])) (fun _ k => XS.iconst X0.here hx rfl (hb hby at_78) k) ?_
      exact jd _ (by rw [if_pos hp_b4])
    · refine Go.back (f' := (mkF m 74 #[.val (.int sz), .val (.int aa), .val (.int bb), .val (.int cc), .val (.int pp), .val (.int ff), .val (.int nn), .val (.int xx), .val (.int yy), .val (.int zz), .val (.int b1), .val (.int b2), .val (.int b3), .unset, .unset, .unset, .unset, .unset, .unset, .unset] [])) (fun _ k => XS.ifNo X0.here hx rfl (hb hby at_71) rfl ((if0 _ _).trans (feq hp_b4).1) k) ?_
      refine Go.back (f' := (mkF m 75 #[.val (.int sz), .val (.int aa), .val (.int bb), .val (.int cc), .val (.int pp), .val (.int ff), .val (.int nn), .val (.int xx), .val (.int yy), .val (.int zz), .val (.int b1), .val (.int b2), .val (.int b3), .unset, .unset, .unset, .unset, .unset, .unset, .unset] [(.int (1 : Int32))])) (fun _ k => XS.iconst X0.here hx rfl (hb hby at_74) k) ?_
      refine Go.back (f' := (mkF m 79 #[.val (.int sz), .val (.int aa), .val (.int bb), .val (.int cc), .val (.int pp), .val (.int ff), .val (.int nn), .val (.int xx), .val (.int yy), .val (.int zz), .val (.int b1), .val (.int b2), .val (.int b3), .unset, .unset, .unset, .unset, .unset, .unset, .unset] [(.int (1 : Int32))])) (fun _ k => XS.goto X0.here hx rfl (pc0 := 75) (pc' := 79) rfl (hb hby at_75) (by decide) (by decide) k) ?_
      exact jd _ (by rw [if_neg hp_b4])
  intro b4 h_b4
  refine Go.back (f' := (mkF m 81 #[.val (.int sz), .val (.int aa), .val (.int bb), .val (.int cc), .val (.int pp), .val (.int ff), .val (.int nn), .val (.int xx), .val (.int yy), .val (.int zz), .val (.int b1), .val (.int b2), .val (.int b3), .val (.int b4), .unset, .unset, .unset, .unset, .unset, .unset] [])) (fun _ k => XS.istore X0.here hx rfl (hb hby at_79) rfl (l' := #[.val (.int sz), .val (.int aa), .val (.int bb), .val (.int cc), .val (.int pp), .val (.int ff), .val (.int nn), .val (.int xx), .val (.int yy), .val (.int zz), .val (.int b1), .val (.int b2), .val (.int b3), .val (.int b4), .unset, .unset, .unset, .unset, .unset, .unset]) rfl k) ?_
  refine Go.back (f' := (mkF m 83 #[.val (.int sz), .val (.int aa), .val (.int bb), .val (.int cc), .val (.int pp), .val (.int ff), .val (.int nn), .val (.int xx), .val (.int yy), .val (.int zz), .val (.int b1), .val (.int b2), .val (.int b3), .val (.int b4), .unset, .unset, .unset, .unset, .unset, .unset] [(.int ff)])) (fun _ k => XS.iload X0.here hx rfl (hb hby at_81) rfl k) ?_
  refine Go.back (f' := (mkF m 85 #[.val (.int sz), .val (.int aa), .val (.int bb), .val (.int cc), .val (.int pp), .val (.int ff), .val (.int nn), .val (.int xx), .val (.int yy), .val (.int zz), .val (.int b1), .val (.int b2), .val (.int b3), .val (.int b4), .unset, .unset, .unset, .unset, .unset, .unset] [(.int (16 : Int32)), (.int ff)])) (fun _ k => XS.bipush X0.here hx rfl (hb hby at_83) k) ?_
  refine Go.back (f' := (mkF m 86 #[.val (.int sz), .val (.int aa), .val (.int bb), .val (.int cc), .val (.int pp), .val (.int ff), .val (.int nn), .val (.int xx), .val (.int yy), .val (.int zz), .val (.int b1), .val (.int b2), .val (.int b3), .val (.int b4), .unset, .unset, .unset, .unset, .unset, .unset] [(.int (ff &&& (16 : Int32)))])) (fun _ k => XS.iand X0.here hx rfl (hb hby at_85) rfl k) ?_
  suffices jd : ∀ b5 : Int32, b5 = (if (ff &&& (16 : Int32)) = 0 then (0 : Int32) else (1 : Int32)) → Go p e below s (fun v h L => v = some (.int 1) ∧ Fr h0.size L) room_1.cells room_1.slots T0 (mkF m 94 #[.val (.int sz), .val (.int aa), .val (.int bb), .val (.int cc), .val (.int pp), .val (.int ff), .val (.int nn), .val (.int xx), .val (.int yy), .val (.int zz), .val (.int b1), .val (.int b2), .val (.int b3), .val (.int b4), .unset, .unset, .unset, .unset, .unset, .unset] [(.int b5)]) by
    by_cases hp_b5 : (ff &&& (16 : Int32)) = 0
    · refine Go.back (f' := (mkF m 93 #[.val (.int sz), .val (.int aa), .val (.int bb), .val (.int cc), .val (.int pp), .val (.int ff), .val (.int nn), .val (.int xx), .val (.int yy), .val (.int zz), .val (.int b1), .val (.int b2), .val (.int b3), .val (.int b4), .unset, .unset, .unset, .unset, .unset, .unset] [])) (fun _ k => XS.ifYes X0.here hx rfl (pc0 := 86) (pc' := 93) rfl (hb hby at_86) rfl ((if0 _ _).trans (teq hp_b5).1) (by decide) (by decide) k) ?_
      refine Go.back (f' := (mkF m 94 #[.val (.int sz), .val (.int aa), .val (.int bb), .val (.int cc), .val (.int pp), .val (.int ff), .val (.int nn), .val (.int xx), .val (.int yy), .val (.int zz), .val (.int b1), .val (.int b2), .val (.int b3), .val (.int b4), .unset, .unset, .unset, .unset, .unset, .unset] [(.int (0 : Int32))])) (fun _ k => XS.iconst X0.here hx rfl (hb hby at_93) k) ?_
      exact jd _ (by rw [if_pos hp_b5])
    · refine Go.back (f' := (mkF m 89 #[.val (.int sz), .val (.int aa), .val (.int bb), .val (.int cc), .val (.int pp), .val (.int ff), .val (.int nn), .val (.int xx), .val (.int yy), .val (.int zz), .val (.int b1), .val (.int b2), .val (.int b3), .val (.int b4), .unset, .unset, .unset, .unset, .unset, .unset] [])) (fun _ k => XS.ifNo X0.here hx rfl (hb hby at_86) rfl ((if0 _ _).trans (feq hp_b5).1) k) ?_
      refine Go.back (f' := (mkF m 90 #[.val (.int sz), .val (.int aa), .val (.int bb), .val (.int cc), .val (.int pp), .val (.int ff), .val (.int nn), .val (.int xx), .val (.int yy), .val (.int zz), .val (.int b1), .val (.int b2), .val (.int b3), .val (.int b4), .unset, .unset, .unset, .unset, .unset, .unset] [(.int (1 : Int32))])) (fun _ k => XS.iconst X0.here hx rfl (hb hby at_89) k) ?_
      refine Go.back (f' := (mkF m 94 #[.val (.int sz), .val (.int aa), .val (.int bb), .val (.int cc), .val (.int pp), .val (.int ff), .val (.int nn), .val (.int xx), .val (.int yy), .val (.int zz), .val (.int b1), .val (.int b2), .val (.int b3), .val (.int b4), .unset, .unset, .unset, .unset, .unset, .unset] [(.int (1 : Int32))])) (fun _ k => XS.goto X0.here hx rfl (pc0 := 90) (pc' := 94) rfl (hb hby at_90) (by decide) (by decide) k) ?_
      exact jd _ (by rw [if_neg hp_b5])
  intro b5 h_b5
  refine Go.back (f' := (mkF m 96 #[.val (.int sz), .val (.int aa), .val (.int bb), .val (.int cc), .val (.int pp), .val (.int ff), .val (.int nn), .val (.int xx), .val (.int yy), .val (.int zz), .val (.int b1), .val (.int b2), .val (.int b3), .val (.int b4), .val (.int b5), .unset, .unset, .unset, .unset, .unset] [])) (fun _ k => XS.istore X0.here hx rfl (hb hby at_94) rfl (l' := #[.val (.int sz), .val (.int aa), .val (.int bb), .val (.int cc), .val (.int pp), .val (.int ff), .val (.int nn), .val (.int xx), .val (.int yy), .val (.int zz), .val (.int b1), .val (.int b2), .val (.int b3), .val (.int b4), .val (.int b5), .unset, .unset, .unset, .unset, .unset]) rfl k) ?_
  refine Go.back (f' := (mkF m 98 #[.val (.int sz), .val (.int aa), .val (.int bb), .val (.int cc), .val (.int pp), .val (.int ff), .val (.int nn), .val (.int xx), .val (.int yy), .val (.int zz), .val (.int b1), .val (.int b2), .val (.int b3), .val (.int b4), .val (.int b5), .unset, .unset, .unset, .unset, .unset] [(.int b5)])) (fun _ k => XS.iload X0.here hx rfl (hb hby at_96) rfl k) ?_
  suffices jd : ∀ qq : Int32, qq = (if b5 = 0 then (pp &&& (15 : Int32)) else (pp &&& (2147483647 : Int32))) → Go p e below s (fun v h L => v = some (.int 1) ∧ Fr h0.size L) room_1.cells room_1.slots T0 (mkF m 114 #[.val (.int sz), .val (.int aa), .val (.int bb), .val (.int cc), .val (.int pp), .val (.int ff), .val (.int nn), .val (.int xx), .val (.int yy), .val (.int zz), .val (.int b1), .val (.int b2), .val (.int b3), .val (.int b4), .val (.int b5), .unset, .unset, .unset, .unset, .unset] [(.int qq)]) by
    by_cases hp_qq : b5 = 0
    · refine Go.back (f' := (mkF m 109 #[.val (.int sz), .val (.int aa), .val (.int bb), .val (.int cc), .val (.int pp), .val (.int ff), .val (.int nn), .val (.int xx), .val (.int yy), .val (.int zz), .val (.int b1), .val (.int b2), .val (.int b3), .val (.int b4), .val (.int b5), .unset, .unset, .unset, .unset, .unset] [])) (fun _ k => XS.ifYes X0.here hx rfl (pc0 := 98) (pc' := 109) rfl (hb hby at_98) rfl ((if0 _ _).trans (teq hp_qq).1) (by decide) (by decide) k) ?_
      refine Go.back (f' := (mkF m 111 #[.val (.int sz), .val (.int aa), .val (.int bb), .val (.int cc), .val (.int pp), .val (.int ff), .val (.int nn), .val (.int xx), .val (.int yy), .val (.int zz), .val (.int b1), .val (.int b2), .val (.int b3), .val (.int b4), .val (.int b5), .unset, .unset, .unset, .unset, .unset] [(.int pp)])) (fun _ k => XS.iload X0.here hx rfl (hb hby at_109) rfl k) ?_
      refine Go.back (f' := (mkF m 113 #[.val (.int sz), .val (.int aa), .val (.int bb), .val (.int cc), .val (.int pp), .val (.int ff), .val (.int nn), .val (.int xx), .val (.int yy), .val (.int zz), .val (.int b1), .val (.int b2), .val (.int b3), .val (.int b4), .val (.int b5), .unset, .unset, .unset, .unset, .unset] [(.int (15 : Int32)), (.int pp)])) (fun _ k => XS.bipush X0.here hx rfl (hb hby at_111) k) ?_
      refine Go.back (f' := (mkF m 114 #[.val (.int sz), .val (.int aa), .val (.int bb), .val (.int cc), .val (.int pp), .val (.int ff), .val (.int nn), .val (.int xx), .val (.int yy), .val (.int zz), .val (.int b1), .val (.int b2), .val (.int b3), .val (.int b4), .val (.int b5), .unset, .unset, .unset, .unset, .unset] [(.int (pp &&& (15 : Int32)))])) (fun _ k => XS.iand X0.here hx rfl (hb hby at_113) rfl k) ?_
      exact jd _ (by rw [if_pos hp_qq])
    · refine Go.back (f' := (mkF m 101 #[.val (.int sz), .val (.int aa), .val (.int bb), .val (.int cc), .val (.int pp), .val (.int ff), .val (.int nn), .val (.int xx), .val (.int yy), .val (.int zz), .val (.int b1), .val (.int b2), .val (.int b3), .val (.int b4), .val (.int b5), .unset, .unset, .unset, .unset, .unset] [])) (fun _ k => XS.ifNo X0.here hx rfl (hb hby at_98) rfl ((if0 _ _).trans (feq hp_qq).1) k) ?_
      refine Go.back (f' := (mkF m 103 #[.val (.int sz), .val (.int aa), .val (.int bb), .val (.int cc), .val (.int pp), .val (.int ff), .val (.int nn), .val (.int xx), .val (.int yy), .val (.int zz), .val (.int b1), .val (.int b2), .val (.int b3), .val (.int b4), .val (.int b5), .unset, .unset, .unset, .unset, .unset] [(.int pp)])) (fun _ k => XS.iload X0.here hx rfl (hb hby at_101) rfl k) ?_
      refine Go.back (f' := (mkF m 105 #[.val (.int sz), .val (.int aa), .val (.int bb), .val (.int cc), .val (.int pp), .val (.int ff), .val (.int nn), .val (.int xx), .val (.int yy), .val (.int zz), .val (.int b1), .val (.int b2), .val (.int b3), .val (.int b4), .val (.int b5), .unset, .unset, .unset, .unset, .unset] [(.int (2147483647 : Int32)), (.int pp)])) (fun _ k => X0.ldcInt hx hown (mvT hZ (hw _ (List.mem_of_getElem? (i := 45) rfl))) (g := (mkF m 103 #[.val (.int sz), .val (.int aa), .val (.int bb), .val (.int cc), .val (.int pp), .val (.int ff), .val (.int nn), .val (.int xx), .val (.int yy), .val (.int zz), .val (.int b1), .val (.int b2), .val (.int b3), .val (.int b4), .val (.int b5), .unset, .unset, .unset, .unset, .unset] [(.int pp)])) rfl (hb hby at_103) _ k) ?_
      refine Go.back (f' := (mkF m 106 #[.val (.int sz), .val (.int aa), .val (.int bb), .val (.int cc), .val (.int pp), .val (.int ff), .val (.int nn), .val (.int xx), .val (.int yy), .val (.int zz), .val (.int b1), .val (.int b2), .val (.int b3), .val (.int b4), .val (.int b5), .unset, .unset, .unset, .unset, .unset] [(.int (pp &&& (2147483647 : Int32)))])) (fun _ k => XS.iand X0.here hx rfl (hb hby at_105) rfl k) ?_
      refine Go.back (f' := (mkF m 114 #[.val (.int sz), .val (.int aa), .val (.int bb), .val (.int cc), .val (.int pp), .val (.int ff), .val (.int nn), .val (.int xx), .val (.int yy), .val (.int zz), .val (.int b1), .val (.int b2), .val (.int b3), .val (.int b4), .val (.int b5), .unset, .unset, .unset, .unset, .unset] [(.int (pp &&& (2147483647 : Int32)))])) (fun _ k => XS.goto X0.here hx rfl (pc0 := 106) (pc' := 114) rfl (hb hby at_106) (by decide) (by decide) k) ?_
      exact jd _ (by rw [if_neg hp_qq])
  intro qq h_qq
  refine Go.back (f' := (mkF m 116 #[.val (.int sz), .val (.int aa), .val (.int bb), .val (.int cc), .val (.int pp), .val (.int ff), .val (.int nn), .val (.int xx), .val (.int yy), .val (.int zz), .val (.int b1), .val (.int b2), .val (.int b3), .val (.int b4), .val (.int b5), .val (.int qq), .unset, .unset, .unset, .unset] [])) (fun _ k => XS.istore X0.here hx rfl (hb hby at_114) rfl (l' := #[.val (.int sz), .val (.int aa), .val (.int bb), .val (.int cc), .val (.int pp), .val (.int ff), .val (.int nn), .val (.int xx), .val (.int yy), .val (.int zz), .val (.int b1), .val (.int b2), .val (.int b3), .val (.int b4), .val (.int b5), .val (.int qq), .unset, .unset, .unset, .unset]) rfl k) ?_
  obtain ⟨qi, hq⟩ : ∃ qi : Nat, qq.toInt = qi := by
    rw [h_qq]; split
    · obtain ⟨i, h, -⟩ := own_m15 pp; exact ⟨i, h⟩
    · exact own_mM pp
  have K0 : Chg h0.size h0 h0 [] [] := Chg.refl (Nat.le_refl _)
  obtain ⟨T75, h75, X75, e75, E75, A75, D75, -, st75⟩ := newO X0 hx hZ hown (hw _ (List.mem_of_getElem? (i := 0) rfl)) (hw _ (List.mem_of_getElem? (i := 1) rfl)) (hw _ (List.mem_of_getElem? (i := 2) rfl)) e0 (g := (mkF m 116 #[.val (.int sz), .val (.int aa), .val (.int bb), .val (.int cc), .val (.int pp), .val (.int ff), .val (.int nn), .val (.int xx), .val (.int yy), .val (.int zz), .val (.int b1), .val (.int b2), .val (.int b3), .val (.int b4), .val (.int b5), .val (.int qq), .unset, .unset, .unset, .unset] [])) rfl (hb hby at_116) (by decide) (by decide)
  obtain ⟨mo, q75⟩ : ∃ z, z = h0.size := ⟨_, rfl⟩
  rw [← q75] at A75 D75 st75
  have sz_mo := K0.at q75
  have g_mo := K0.ge sz_mo
  have K_76 := K0.ext E75
  have Fl_77 : Fld Z h75 mo "com/example/mu_tableau/mutableau/engine/Marks" "stamp" "I" (.int (0 : Int32)) := D75 (Or.inl (hw _ (List.mem_of_getElem? (i := 10) rfl))) (ty := .int) (by decide)
  have Fl_78 : Fld Z h75 mo "com/example/mu_tableau/mutableau/engine/Marks" "markedAt" "[I" .null := D75 (Or.inl (hw _ (List.mem_of_getElem? (i := 13) rfl))) (ty := (.array .int)) (by decide)
  refine Go.back (f' := (mkF m 119 #[.val (.int sz), .val (.int aa), .val (.int bb), .val (.int cc), .val (.int pp), .val (.int ff), .val (.int nn), .val (.int xx), .val (.int yy), .val (.int zz), .val (.int b1), .val (.int b2), .val (.int b3), .val (.int b4), .val (.int b5), .val (.int qq), .unset, .unset, .unset, .unset] [(.ref mo)])) st75 ?_
  refine Go.back (f' := (mkF m 120 #[.val (.int sz), .val (.int aa), .val (.int bb), .val (.int cc), .val (.int pp), .val (.int ff), .val (.int nn), .val (.int xx), .val (.int yy), .val (.int zz), .val (.int b1), .val (.int b2), .val (.int b3), .val (.int b4), .val (.int b5), .val (.int qq), .unset, .unset, .unset, .unset] [(.ref mo), (.ref mo)])) (fun _ k => XS.dup X75.here hx rfl (hb hby at_119) rfl rfl k) ?_
  refine Go.back (f' := (mkF m 122 #[.val (.int sz), .val (.int aa), .val (.int bb), .val (.int cc), .val (.int pp), .val (.int ff), .val (.int nn), .val (.int xx), .val (.int yy), .val (.int zz), .val (.int b1), .val (.int b2), .val (.int b3), .val (.int b4), .val (.int b5), .val (.int qq), .unset, .unset, .unset, .unset] [(.int nn), (.ref mo), (.ref mo)])) (fun _ k => XS.iload X75.here hx rfl (hb hby at_120) rfl k) ?_
  refine Go.callI X75 hx hZ rfl hown (hw _ (List.mem_of_getElem? (i := 3) rfl)) (hw _ (List.mem_of_getElem? (i := 4) rfl)) (hw _ (List.mem_of_getElem? (i := 2) rfl)) (hw _ (List.mem_of_getElem? (i := 5) rfl)) (by decide) e75 (a := mo) (argsL := [(.int nn)]) (rest := [(.ref mo)]) (rmIni l Z a0 hw mo nn ni h0.size h75 K_76.size A75 Fl_77 Fl_78 hni n7 g_mo) (lenOf pd_2 rfl) rfl (by rw [hml]; rfl) (W := 1) (Nat.le_of_eq rfl) (hb hby at_122) (by decide) (by decide) (by decide) (by decide) ?_
  intro v79 T79 L79 X79 hQ79
  obtain ⟨rfl, C79, arr, za79, M79⟩ := hQ79
  have Ex_80 := A75.keep C79.keep
  have K_81 := K_76.call C79 (allS (Or.inr sz_mo) all0)
  have I : Inv Z h0 T79.heap mo arr 1 (List.replicate ni 0) _ 1 (fun _ => False) := Inv.ini M79 K_81 sz_mo (Nat.le_trans K_76.grow za79) n7
  show GoG _ _ _ _ _ (mkF m 125 #[.val (.int sz), .val (.int aa), .val (.int bb), .val (.int cc), .val (.int pp), .val (.int ff), .val (.int nn), .val (.int xx), .val (.int yy), .val (.int zz), .val (.int b1), .val (.int b2), .val (.int b3), .val (.int b4), .val (.int b5), .val (.int qq), .unset, .unset, .unset, .unset] [(.ref mo)])
  refine Go.back (f' := (mkF m 127 #[.val (.int sz), .val (.int aa), .val (.int bb), .val (.int cc), .val (.int pp), .val (.int ff), .val (.int nn), .val (.int xx), .val (.int yy), .val (.int zz), .val (.int b1), .val (.int b2), .val (.int b3), .val (.int b4), .val (.int b5), .val (.int qq), .val (.ref mo), .unset, .unset, .unset] [])) (fun _ k => XS.astore X79.here hx rfl (hb hby at_125) rfl rfl (l' := #[.val (.int sz), .val (.int aa), .val (.int bb), .val (.int cc), .val (.int pp), .val (.int ff), .val (.int nn), .val (.int xx), .val (.int yy), .val (.int zz), .val (.int b1), .val (.int b2), .val (.int b3), .val (.int b4), .val (.int b5), .val (.int qq), .val (.ref mo), .unset, .unset, .unset]) rfl k) ?_
  refine Go.back (f' := (mkF m 129 #[.val (.int sz), .val (.int aa), .val (.int bb), .val (.int cc), .val (.int pp), .val (.int ff), .val (.int nn), .val (.int xx), .val (.int yy), .val (.int zz), .val (.int b1), .val (.int b2), .val (.int b3), .val (.int b4), .val (.int b5), .val (.int qq), .val (.ref mo), .unset, .unset, .unset] [(.int b1)])) (fun _ k => XS.iload X79.here hx rfl (hb hby at_127) rfl k) ?_
  suffices jo82 : ∀ (T : State) (h : Heap) (locs : List Loc) (arr : Addr) (st : Int32) (is : List Int32), Stand p l e room_1 s m #[(.int sz), (.int aa), (.int bb), (.int cc), (.int pp), (.int ff)] below meth c T locs 3 39 → T.heap = h → Inv Z h0 h mo arr st is locs 1 (fun k => ¬ b1 = 0 ∧ k = xi) → Go p e below s (fun v h L => v = some (.int 1) ∧ Fr h0.size L) room_1.cells room_1.slots T (mkF m 139 #[.val (.int sz), .val (.int aa), .val (.int bb), .val (.int cc), .val (.int pp), .val (.int ff), .val (.int nn), .val (.int xx), .val (.int yy), .val (.int zz), .val (.int b1), .val (.int b2), .val (.int b3), .val (.int b4), .val (.int b5), .val (.int qq), .val (.ref mo), .unset, .unset, .unset] []) by
    by_cases hpjo82 : b1 = 0
    · refine Go.back (f' := (mkF m 139 #[.val (.int sz), .val (.int aa), .val (.int bb), .val (.int cc), .val (.int pp), .val (.int ff), .val (.int nn), .val (.int xx), .val (.int yy), .val (.int zz), .val (.int b1), .val (.int b2), .val (.int b3), .val (.int b4), .val (.int b5), .val (.int qq), .val (.ref mo), .unset, .unset, .unset] [])) (fun _ k => XS.ifYes X79.here hx rfl (pc0 := 129) (pc' := 139) rfl (hb hby at_129) rfl ((if0 _ _).trans (teq hpjo82).1) (by decide) (by decide) k) ?_
      exact jo82 T79 _ _ arr (1 : Int32) (List.replicate ni 0) (X79.more (by decide) (by decide)) rfl ((I.wk (by decide)).congr (fun k => ⟨fun q => q.elim, fun q => absurd hpjo82 q.1⟩))
    · refine Go.back (f' := (mkF m 132 #[.val (.int sz), .val (.int aa), .val (.int bb), .val (.int cc), .val (.int pp), .val (.int ff), .val (.int nn), .val (.int xx), .val (.int yy), .val (.int zz), .val (.int b1), .val (.int b2), .val (.int b3), .val (.int b4), .val (.int b5), .val (.int qq), .val (.ref mo), .unset, .unset, .unset] [])) (fun _ k => XS.ifNo X79.here hx rfl (hb hby at_129) rfl ((if0 _ _).trans (feq hpjo82).1) k) ?_
      refine Go.back (f' := (mkF m 134 #[.val (.int sz), .val (.int aa), .val (.int bb), .val (.int cc), .val (.int pp), .val (.int ff), .val (.int nn), .val (.int xx), .val (.int yy), .val (.int zz), .val (.int b1), .val (.int b2), .val (.int b3), .val (.int b4), .val (.int b5), .val (.int qq), .val (.ref mo), .unset, .unset, .unset] [(.ref mo)])) (fun _ k => XS.aload X79.here hx rfl (hb hby at_132) rfl rfl k) ?_
      refine Go.back (f' := (mkF m 136 #[.val (.int sz), .val (.int aa), .val (.int bb), .val (.int cc), .val (.int pp), .val (.int ff), .val (.int nn), .val (.int xx), .val (.int yy), .val (.int zz), .val (.int b1), .val (.int b2), .val (.int b3), .val (.int b4), .val (.int b5), .val (.int qq), .val (.ref mo), .unset, .unset, .unset] [(.int xx), (.ref mo)])) (fun _ k => XS.iload X79.here hx rfl (hb hby at_134) rfl k) ?_
      refine Go.callV X79 hx hZ hown (hw _ (List.mem_of_getElem? (i := 14) rfl)) (hw _ (List.mem_of_getElem? (i := 15) rfl)) (hw _ (List.mem_of_getElem? (i := 17) rfl)) (hw _ (List.mem_of_getElem? (i := 16) rfl)) (hw _ (List.mem_of_getElem? (i := 2) rfl)) (hw _ (List.mem_of_getElem? (i := 18) rfl)) (by decide) rfl I.1.1 (argsL := [(.int xx)]) (rest := []) (rmAdd l Z a0 hw mo arr (1 : Int32) xx (List.replicate ni 0) xi h0.size T79.heap I.2.1.size I.1 hx_ x16 I.2.2.2.2.1 I.2.2.1 I.2.2.2.1) (lenOf pd_2 rfl) rfl (by rw [hml]; rfl) (W := 0) (Nat.le_of_eq rfl) (hb hby at_136) (by decide) (by decide) (by decide) (by decide) ?_
      intro v83 T83 L83 X83 hQ83
      obtain ⟨rfl, C83, ar83, qa83, M83⟩ := hQ83
      show GoG _ _ _ _ _ (mkF m 139 #[.val (.int sz), .val (.int aa), .val (.int bb), .val (.int cc), .val (.int pp), .val (.int ff), .val (.int nn), .val (.int xx), .val (.int yy), .val (.int zz), .val (.int b1), .val (.int b2), .val (.int b3), .val (.int b4), .val (.int b5), .val (.int qq), .val (.ref mo), .unset, .unset, .unset] [])
      have I_84 := I.add C83 qa83 M83 x16
      exact jo82 T83 _ _ ar83 (1 : Int32) (addL (List.replicate ni 0) xi (1 : Int32)) (X83.more (by decide) (by decide)) rfl ((I_84.wk (by decide)).congr (fun k => ⟨fun q => ⟨hpjo82, q.resolve_right id⟩, fun q => Or.inl q.2⟩))
  intro T85 h85 locs85 arr85 st85 is85 X85 e85 I85
  refine Go.back (f' := (mkF m 141 #[.val (.int sz), .val (.int aa), .val (.int bb), .val (.int cc), .val (.int pp), .val (.int ff), .val (.int nn), .val (.int xx), .val (.int yy), .val (.int zz), .val (.int b1), .val (.int b2), .val (.int b3), .val (.int b4), .val (.int b5), .val (.int qq), .val (.ref mo), .unset, .unset, .unset] [(.int b2)])) (fun _ k => XS.iload X85.here hx rfl (hb hby at_139) rfl k) ?_
  suffices jo86 : ∀ (T : State) (h : Heap) (locs : List Loc) (arr : Addr) (st : Int32) (is : List Int32), Stand p l e room_1 s m #[(.int sz), (.int aa), (.int bb), (.int cc), (.int pp), (.int ff)] below meth c T locs 3 39 → T.heap = h → Inv Z h0 h mo arr st is locs 2 (fun k => b2 = 0 ∧ ¬ b1 = 0 ∧ k = xi) → Go p e below s (fun v h L => v = some (.int 1) ∧ Fr h0.size L) room_1.cells room_1.slots T (mkF m 149 #[.val (.int sz), .val (.int aa), .val (.int bb), .val (.int cc), .val (.int pp), .val (.int ff), .val (.int nn), .val (.int xx), .val (.int yy), .val (.int zz), .val (.int b1), .val (.int b2), .val (.int b3), .val (.int b4), .val (.int b5), .val (.int qq), .val (.ref mo), .unset, .unset, .unset] []) by
    by_cases hpjo86 : b2 = 0
    · refine Go.back (f' := (mkF m 149 #[.val (.int sz), .val (.int aa), .val (.int bb), .val (.int cc), .val (.int pp), .val (.int ff), .val (.int nn), .val (.int xx), .val (.int yy), .val (.int zz), .val (.int b1), .val (.int b2), .val (.int b3), .val (.int b4), .val (.int b5), .val (.int qq), .val (.ref mo), .unset, .unset, .unset] [])) (fun _ k => XS.ifYes X85.here hx rfl (pc0 := 141) (pc' := 149) rfl (hb hby at_141) rfl ((if0 _ _).trans (teq hpjo86).1) (by decide) (by decide) k) ?_
      exact jo86 T85 _ _ arr85 st85 is85 (X85.more (by decide) (by decide)) e85 ((I85.wk (by decide)).congr (fun k => ⟨fun q => ⟨hpjo86, q⟩, fun q => q.2⟩))
    · refine Go.back (f' := (mkF m 144 #[.val (.int sz), .val (.int aa), .val (.int bb), .val (.int cc), .val (.int pp), .val (.int ff), .val (.int nn), .val (.int xx), .val (.int yy), .val (.int zz), .val (.int b1), .val (.int b2), .val (.int b3), .val (.int b4), .val (.int b5), .val (.int qq), .val (.ref mo), .unset, .unset, .unset] [])) (fun _ k => XS.ifNo X85.here hx rfl (hb hby at_141) rfl ((if0 _ _).trans (feq hpjo86).1) k) ?_
      refine Go.back (f' := (mkF m 146 #[.val (.int sz), .val (.int aa), .val (.int bb), .val (.int cc), .val (.int pp), .val (.int ff), .val (.int nn), .val (.int xx), .val (.int yy), .val (.int zz), .val (.int b1), .val (.int b2), .val (.int b3), .val (.int b4), .val (.int b5), .val (.int qq), .val (.ref mo), .unset, .unset, .unset] [(.ref mo)])) (fun _ k => XS.aload X85.here hx rfl (hb hby at_144) rfl rfl k) ?_
      refine Go.callV X85 hx hZ hown (hw _ (List.mem_of_getElem? (i := 34) rfl)) (hw _ (List.mem_of_getElem? (i := 35) rfl)) (hw _ (List.mem_of_getElem? (i := 37) rfl)) (hw _ (List.mem_of_getElem? (i := 36) rfl)) (hw _ (List.mem_of_getElem? (i := 2) rfl)) (hw _ (List.mem_of_getElem? (i := 38) rfl)) (by decide) e85 I85.1.1 (argsL := []) (rest := []) (rmClr l Z a0 hw mo arr85 st85 is85 h0.size h85 I85.2.1.size I85.1 I85.2.2.2.2.2.1 (Int.le_trans I85.2.2.2.2.2.2.1 (by decide)) I85.2.2.1 I85.2.2.2.1) (lenOf pd_3 rfl) rfl (by rw [hml]; rfl) (W := 0) (Nat.le_of_eq rfl) (hb hby at_146) (by decide) (by decide) (by decide) (by decide) ?_
      intro v87 T87 L87 X87 hQ87
      obtain ⟨rfl, C87, M87⟩ := hQ87
      show GoG _ _ _ _ _ (mkF m 149 #[.val (.int sz), .val (.int aa), .val (.int bb), .val (.int cc), .val (.int pp), .val (.int ff), .val (.int nn), .val (.int xx), .val (.int yy), .val (.int zz), .val (.int b1), .val (.int b2), .val (.int b3), .val (.int b4), .val (.int b5), .val (.int qq), .val (.ref mo), .unset, .unset, .unset] [])
      have I_88 := I85.clr C87 M87 (by decide)
      exact jo86 T87 _ _ arr85 (st85 + 1) is85 (X87.more (by decide) (by decide)) rfl ((I_88.wk (by decide)).congr (fun k => ⟨fun q => q.elim, fun q => absurd q.1 hpjo86⟩))
  intro T89 h89 locs89 arr89 st89 is89 X89 e89 I89
  refine Go.back (f' := (mkF m 151 #[.val (.int sz), .val (.int aa), .val (.int bb), .val (.int cc), .val (.int pp), .val (.int ff), .val (.int nn), .val (.int xx), .val (.int yy), .val (.int zz), .val (.int b1), .val (.int b2), .val (.int b3), .val (.int b4), .val (.int b5), .val (.int qq), .val (.ref mo), .unset, .unset, .unset] [(.int b3)])) (fun _ k => XS.iload X89.here hx rfl (hb hby at_149) rfl k) ?_
  suffices jo90 : ∀ (T : State) (h : Heap) (locs : List Loc) (arr : Addr) (st : Int32) (is : List Int32), Stand p l e room_1 s m #[(.int sz), (.int aa), (.int bb), (.int cc), (.int pp), (.int ff)] below meth c T locs 4 69 → T.heap = h → Inv Z h0 h mo arr st is locs 2 (fun k => (¬ b3 = 0 ∧ k = yi) ∨ (b2 = 0 ∧ ¬ b1 = 0 ∧ k = xi)) → Go p e below s (fun v h L => v = some (.int 1) ∧ Fr h0.size L) room_1.cells room_1.slots T (mkF m 161 #[.val (.int sz), .val (.int aa), .val (.int bb), .val (.int cc), .val (.int pp), .val (.int ff), .val (.int nn), .val (.int xx), .val (.int yy), .val (.int zz), .val (.int b1), .val (.int b2), .val (.int b3), .val (.int b4), .val (.int b5), .val (.int qq), .val (.ref mo), .unset, .unset, .unset] []) by
    by_cases hpjo90 : b3 = 0
    · refine Go.back (f' := (mkF m 161 #[.val (.int sz), .val (.int aa), .val (.int bb), .val (.int cc), .val (.int pp), .val (.int ff), .val (.int nn), .val (.int xx), .val (.int yy), .val (.int zz), .val (.int b1), .val (.int b2), .val (.int b3), .val (.int b4), .val (.int b5), .val (.int qq), .val (.ref mo), .unset, .unset, .unset] [])) (fun _ k => XS.ifYes X89.here hx rfl (pc0 := 151) (pc' := 161) rfl (hb hby at_151) rfl ((if0 _ _).trans (teq hpjo90).1) (by decide) (by decide) k) ?_
      exact jo90 T89 _ _ arr89 st89 is89 (X89.more (by decide) (by decide)) e89 ((I89.wk (by decide)).congr (fun k => ⟨fun q => Or.inr q, fun q => q.resolve_left fun r => r.1 hpjo90⟩))
    · refine Go.back (f' := (mkF m 154 #[.val (.int sz), .val (.int aa), .val (.int bb), .val (.int cc), .val (.int pp), .val (.int ff), .val (.int nn), .val (.int xx), .val (.int yy), .val (.int zz), .val (.int b1), .val (.int b2), .val (.int b3), .val (.int b4), .val (.int b5), .val (.int qq), .val (.ref mo), .unset, .unset, .unset] [])) (fun _ k => XS.ifNo X89.here hx rfl (hb hby at_151) rfl ((if0 _ _).trans (feq hpjo90).1) k) ?_
      refine Go.back (f' := (mkF m 156 #[.val (.int sz), .val (.int aa), .val (.int bb), .val (.int cc), .val (.int pp), .val (.int ff), .val (.int nn), .val (.int xx), .val (.int yy), .val (.int zz), .val (.int b1), .val (.int b2), .val (.int b3), .val (.int b4), .val (.int b5), .val (.int qq), .val (.ref mo), .unset, .unset, .unset] [(.ref mo)])) (fun _ k => XS.aload X89.here hx rfl (hb hby at_154) rfl rfl k) ?_
      refine Go.back (f' := (mkF m 158 #[.val (.int sz), .val (.int aa), .val (.int bb), .val (.int cc), .val (.int pp), .val (.int ff), .val (.int nn), .val (.int xx), .val (.int yy), .val (.int zz), .val (.int b1), .val (.int b2), .val (.int b3), .val (.int b4), .val (.int b5), .val (.int qq), .val (.ref mo), .unset, .unset, .unset] [(.int yy), (.ref mo)])) (fun _ k => XS.iload X89.here hx rfl (hb hby at_156) rfl k) ?_
      refine Go.callV X89 hx hZ hown (hw _ (List.mem_of_getElem? (i := 14) rfl)) (hw _ (List.mem_of_getElem? (i := 15) rfl)) (hw _ (List.mem_of_getElem? (i := 17) rfl)) (hw _ (List.mem_of_getElem? (i := 16) rfl)) (hw _ (List.mem_of_getElem? (i := 2) rfl)) (hw _ (List.mem_of_getElem? (i := 18) rfl)) (by decide) e89 I89.1.1 (argsL := [(.int yy)]) (rest := []) (rmAdd l Z a0 hw mo arr89 st89 yy is89 yi h0.size h89 I89.2.1.size I89.1 hy_ y16 I89.2.2.2.2.1 I89.2.2.1 I89.2.2.2.1) (lenOf pd_2 rfl) rfl (by rw [hml]; rfl) (W := 0) (Nat.le_of_eq rfl) (hb hby at_158) (by decide) (by decide) (by decide) (by decide) ?_
      intro v91 T91 L91 X91 hQ91
      obtain ⟨rfl, C91, ar91, qa91, M91⟩ := hQ91
      show GoG _ _ _ _ _ (mkF m 161 #[.val (.int sz), .val (.int aa), .val (.int bb), .val (.int cc), .val (.int pp), .val (.int ff), .val (.int nn), .val (.int xx), .val (.int yy), .val (.int zz), .val (.int b1), .val (.int b2), .val (.int b3), .val (.int b4), .val (.int b5), .val (.int qq), .val (.ref mo), .unset, .unset, .unset] [])
      have I_92 := I89.add C91 qa91 M91 y16
      exact jo90 T91 _ _ ar91 st89 (addL is89 yi st89) (X91.more (by decide) (by decide)) rfl ((I_92.wk (by decide)).congr (fun k => ⟨fun q => q.imp (fun r => ⟨hpjo90, r⟩) id, fun q => q.imp (fun r => r.2) id⟩))
  intro T93 h93 locs93 arr93 st93 is93 X93 e93 I93
  refine Go.back (f' := (mkF m 163 #[.val (.int sz), .val (.int aa), .val (.int bb), .val (.int cc), .val (.int pp), .val (.int ff), .val (.int nn), .val (.int xx), .val (.int yy), .val (.int zz), .val (.int b1), .val (.int b2), .val (.int b3), .val (.int b4), .val (.int b5), .val (.int qq), .val (.ref mo), .unset, .unset, .unset] [(.int b4)])) (fun _ k => XS.iload X93.here hx rfl (hb hby at_161) rfl k) ?_
  suffices jo94 : ∀ (T : State) (h : Heap) (locs : List Loc) (arr : Addr) (st : Int32) (is : List Int32), Stand p l e room_1 s m #[(.int sz), (.int aa), (.int bb), (.int cc), (.int pp), (.int ff)] below meth c T locs 4 69 → T.heap = h → Inv Z h0 h mo arr st is locs 2 (fun k => ((¬ b3 = 0 ∧ k = yi) ∨ (b2 = 0 ∧ ¬ b1 = 0 ∧ k = xi)) ∧ ¬ (¬ b4 = 0 ∧ k = zi)) → Go p e below s (fun v h L => v = some (.int 1) ∧ Fr h0.size L) room_1.cells room_1.slots T (mkF m 173 #[.val (.int sz), .val (.int aa), .val (.int bb), .val (.int cc), .val (.int pp), .val (.int ff), .val (.int nn), .val (.int xx), .val (.int yy), .val (.int zz), .val (.int b1), .val (.int b2), .val (.int b3), .val (.int b4), .val (.int b5), .val (.int qq), .val (.ref mo), .unset, .unset, .unset] []) by
    by_cases hpjo94 : b4 = 0
    · refine Go.back (f' := (mkF m 173 #[.val (.int sz), .val (.int aa), .val (.int bb), .val (.int cc), .val (.int pp), .val (.int ff), .val (.int nn), .val (.int xx), .val (.int yy), .val (.int zz), .val (.int b1), .val (.int b2), .val (.int b3), .val (.int b4), .val (.int b5), .val (.int qq), .val (.ref mo), .unset, .unset, .unset] [])) (fun _ k => XS.ifYes X93.here hx rfl (pc0 := 163) (pc' := 173) rfl (hb hby at_163) rfl ((if0 _ _).trans (teq hpjo94).1) (by decide) (by decide) k) ?_
      exact jo94 T93 _ _ arr93 st93 is93 (X93.more (by decide) (by decide)) e93 ((I93.wk (by decide)).congr (fun k => ⟨fun q => ⟨q, fun r => r.1 hpjo94⟩, fun q => q.1⟩))
    · refine Go.back (f' := (mkF m 166 #[.val (.int sz), .val (.int aa), .val (.int bb), .val (.int cc), .val (.int pp), .val (.int ff), .val (.int nn), .val (.int xx), .val (.int yy), .val (.int zz), .val (.int b1), .val (.int b2), .val (.int b3), .val (.int b4), .val (.int b5), .val (.int qq), .val (.ref mo), .unset, .unset, .unset] [])) (fun _ k => XS.ifNo X93.here hx rfl (hb hby at_163) rfl ((if0 _ _).trans (feq hpjo94).1) k) ?_
      refine Go.back (f' := (mkF m 168 #[.val (.int sz), .val (.int aa), .val (.int bb), .val (.int cc), .val (.int pp), .val (.int ff), .val (.int nn), .val (.int xx), .val (.int yy), .val (.int zz), .val (.int b1), .val (.int b2), .val (.int b3), .val (.int b4), .val (.int b5), .val (.int qq), .val (.ref mo), .unset, .unset, .unset] [(.ref mo)])) (fun _ k => XS.aload X93.here hx rfl (hb hby at_166) rfl rfl k) ?_
      refine Go.back (f' := (mkF m 170 #[.val (.int sz), .val (.int aa), .val (.int bb), .val (.int cc), .val (.int pp), .val (.int ff), .val (.int nn), .val (.int xx), .val (.int yy), .val (.int zz), .val (.int b1), .val (.int b2), .val (.int b3), .val (.int b4), .val (.int b5), .val (.int qq), .val (.ref mo), .unset, .unset, .unset] [(.int zz), (.ref mo)])) (fun _ k => XS.iload X93.here hx rfl (hb hby at_168) rfl k) ?_
      refine Go.callV X93 hx hZ hown (hw _ (List.mem_of_getElem? (i := 46) rfl)) (hw _ (List.mem_of_getElem? (i := 47) rfl)) (hw _ (List.mem_of_getElem? (i := 49) rfl)) (hw _ (List.mem_of_getElem? (i := 48) rfl)) (hw _ (List.mem_of_getElem? (i := 2) rfl)) (hw _ (List.mem_of_getElem? (i := 50) rfl)) (by decide) e93 I93.1.1 (argsL := [(.int zz)]) (rest := []) (rmRem l Z a0 hw mo arr93 st93 zz is93 zi h0.size h93 I93.2.1.size I93.1 hz_ I93.2.2.1 I93.2.2.2.1) (lenOf pd_2 rfl) rfl (by rw [hml]; rfl) (W := 0) (Nat.le_of_eq rfl) (hb hby at_170) (by decide) (by decide) (by decide) (by decide) ?_
      intro v95 T95 L95 X95 hQ95
      obtain ⟨rfl, C95, M95⟩ := hQ95
      show GoG _ _ _ _ _ (mkF m 173 #[.val (.int sz), .val (.int aa), .val (.int bb), .val (.int cc), .val (.int pp), .val (.int ff), .val (.int nn), .val (.int xx), .val (.int yy), .val (.int zz), .val (.int b1), .val (.int b2), .val (.int b3), .val (.int b4), .val (.int b5), .val (.int qq), .val (.ref mo), .unset, .unset, .unset] [])
      have I_96 := I93.rem C95 M95
      exact jo94 T95 _ _ arr93 st93 (is93.set zi 0) (X95.more (by decide) (by decide)) rfl ((I_96.wk (by decide)).congr (fun k => ⟨fun q => ⟨q.1, fun r => q.2 r.2⟩, fun q => ⟨q.1, fun r => q.2 ⟨hpjo94, r⟩⟩⟩))
  intro T97 h97 locs97 arr97 st97 is97 X97 e97 I97
  refine Go.back (f' := (mkF m 175 #[.val (.int sz), .val (.int aa), .val (.int bb), .val (.int cc), .val (.int pp), .val (.int ff), .val (.int nn), .val (.int xx), .val (.int yy), .val (.int zz), .val (.int b1), .val (.int b2), .val (.int b3), .val (.int b4), .val (.int b5), .val (.int qq), .val (.ref mo), .unset, .unset, .unset] [(.ref mo)])) (fun _ k => XS.aload X97.here hx rfl (hb hby at_173) rfl rfl k) ?_
  refine Go.back (f' := (mkF m 177 #[.val (.int sz), .val (.int aa), .val (.int bb), .val (.int cc), .val (.int pp), .val (.int ff), .val (.int nn), .val (.int xx), .val (.int yy), .val (.int zz), .val (.int b1), .val (.int b2), .val (.int b3), .val (.int b4), .val (.int b5), .val (.int qq), .val (.ref mo), .unset, .unset, .unset] [(.int qq), (.ref mo)])) (fun _ k => XS.iload X97.here hx rfl (hb hby at_175) rfl k) ?_
  refine Go.callV X97 hx hZ hown (hw _ (List.mem_of_getElem? (i := 40) rfl)) (hw _ (List.mem_of_getElem? (i := 41) rfl)) (hw _ (List.mem_of_getElem? (i := 43) rfl)) (hw _ (List.mem_of_getElem? (i := 42) rfl)) (hw _ (List.mem_of_getElem? (i := 2) rfl)) (hw _ (List.mem_of_getElem? (i := 44) rfl)) (by decide) e97 I97.1.1 (argsL := [(.int qq)]) (rest := []) (rmCon l Z a0 hw mo arr97 st97 qq is97 qi h0.size h97 I97.2.1.size I97.1 hq) (lenOf pd_4 rfl) rfl (by rw [hml]; rfl) (W := 0) (Nat.le_of_eq rfl) (hb hby at_177) (by decide) (by decide) (by decide) (by decide) ?_
  intro v98 T98 L98 X98 hQ98
  obtain ⟨gg, rfl, gg_01, gg_i, rfl, hh98⟩ := hQ98
  rw [List.append_nil] at X98
  have gg_i : gg = 1 ↔ (((¬ b3 = 0 ∧ qi = yi) ∨ (b2 = 0 ∧ ¬ b1 = 0 ∧ qi = xi)) ∧ ¬ (¬ b4 = 0 ∧ qi = zi)) := gg_i.trans (I97.2.2.2.2.2.2.2.2 qi)
  show GoG _ _ _ _ _ (mkF m 180 #[.val (.int sz), .val (.int aa), .val (.int bb), .val (.int cc), .val (.int pp), .val (.int ff), .val (.int nn), .val (.int xx), .val (.int yy), .val (.int zz), .val (.int b1), .val (.int b2), .val (.int b3), .val (.int b4), .val (.int b5), .val (.int qq), .val (.ref mo), .unset, .unset, .unset] [(.int gg)])
  refine Go.back (f' := (mkF m 182 #[.val (.int sz), .val (.int aa), .val (.int bb), .val (.int cc), .val (.int pp), .val (.int ff), .val (.int nn), .val (.int xx), .val (.int yy), .val (.int zz), .val (.int b1), .val (.int b2), .val (.int b3), .val (.int b4), .val (.int b5), .val (.int qq), .val (.ref mo), .val (.int gg), .unset, .unset] [])) (fun _ k => XS.istore X98.here hx rfl (hb hby at_180) rfl (l' := #[.val (.int sz), .val (.int aa), .val (.int bb), .val (.int cc), .val (.int pp), .val (.int ff), .val (.int nn), .val (.int xx), .val (.int yy), .val (.int zz), .val (.int b1), .val (.int b2), .val (.int b3), .val (.int b4), .val (.int b5), .val (.int qq), .val (.ref mo), .val (.int gg), .unset, .unset]) rfl k) ?_
  refine Go.back (f' := (mkF m 184 #[.val (.int sz), .val (.int aa), .val (.int bb), .val (.int cc), .val (.int pp), .val (.int ff), .val (.int nn), .val (.int xx), .val (.int yy), .val (.int zz), .val (.int b1), .val (.int b2), .val (.int b3), .val (.int b4), .val (.int b5), .val (.int qq), .val (.ref mo), .val (.int gg), .unset, .unset] [(.int b1)])) (fun _ k => XS.iload X98.here hx rfl (hb hby at_182) rfl k) ?_
  have dx := own_eq hq hx_
  have dy := own_eq hq hy_
  have dz := own_eq hq hz_
  suffices jm99 : ∀ e1 : Int32, ((e1 = 0 ∨ e1 = 1) ∧ (e1 = 1 ↔ ((¬ b3 = 0 ∧ qq = yy) ∨ (b2 = 0 ∧ ¬ b1 = 0 ∧ qq = xx)))) → Go p e below s (fun v h L => v = some (.int 1) ∧ Fr h0.size L) room_1.cells room_1.slots T98 (mkF m 216 #[.val (.int sz), .val (.int aa), .val (.int bb), .val (.int cc), .val (.int pp), .val (.int ff), .val (.int nn), .val (.int xx), .val (.int yy), .val (.int zz), .val (.int b1), .val (.int b2), .val (.int b3), .val (.int b4), .val (.int b5), .val (.int qq), .val (.ref mo), .val (.int gg), .unset, .unset] [(.int e1)]) by
    by_cases hp_e1_0 : b1 = 0
    · refine Go.back (f' := (mkF m 199 #[.val (.int sz), .val (.int aa), .val (.int bb), .val (.int cc), .val (.int pp), .val (.int ff), .val (.int nn), .val (.int xx), .val (.int yy), .val (.int zz), .val (.int b1), .val (.int b2), .val (.int b3), .val (.int b4), .val (.int b5), .val (.int qq), .val (.ref mo), .val (.int gg), .unset, .unset] [])) (fun _ k => XS.ifYes X98.here hx rfl (pc0 := 184) (pc' := 199) rfl (hb hby at_184) rfl ((if0 _ _).trans (teq hp_e1_0).1) (by decide) (by decide) k) ?_
      refine Go.back (f' := (mkF m 201 #[.val (.int sz), .val (.int aa), .val (.int bb), .val (.int cc), .val (.int pp), .val (.int ff), .val (.int nn), .val (.int xx), .val (.int yy), .val (.int zz), .val (.int b1), .val (.int b2), .val (.int b3), .val (.int b4), .val (.int b5), .val (.int qq), .val (.ref mo), .val (.int gg), .unset, .unset] [(.int b3)])) (fun _ k => XS.iload X98.here hx rfl (hb hby at_199) rfl k) ?_
      by_cases hp_e1_1 : b3 = 0
      · refine Go.back (f' := (mkF m 215 #[.val (.int sz), .val (.int aa), .val (.int bb), .val (.int cc), .val (.int pp), .val (.int ff), .val (.int nn), .val (.int xx), .val (.int yy), .val (.int zz), .val (.int b1), .val (.int b2), .val (.int b3), .val (.int b4), .val (.int b5), .val (.int qq), .val (.ref mo), .val (.int gg), .unset, .unset] [])) (fun _ k => XS.ifYes X98.here hx rfl (pc0 := 201) (pc' := 215) rfl (hb hby at_201) rfl ((if0 _ _).trans (teq hp_e1_1).1) (by decide) (by decide) k) ?_
        refine Go.back (f' := (mkF m 216 #[.val (.int sz), .val (.int aa), .val (.int bb), .val (.int cc), .val (.int pp), .val (.int ff), .val (.int nn), .val (.int xx), .val (.int yy), .val (.int zz), .val (.int b1), .val (.int b2), .val (.int b3), .val (.int b4), .val (.int b5), .val (.int qq), .val (.ref mo), .val (.int gg), .unset, .unset] [(.int (0 : Int32))])) (fun _ k => XS.iconst X98.here hx rfl (hb hby at_215) k) ?_
        exact jm99 (0 : Int32) (by simp [hp_e1_0, hp_e1_1])
      · refine Go.back (f' := (mkF m 204 #[.val (.int sz), .val (.int aa), .val (.int bb), .val (.int cc), .val (.int pp), .val (.int ff), .val (.int nn), .val (.int xx), .val (.int yy), .val (.int zz), .val (.int b1), .val (.int b2), .val (.int b3), .val (.int b4), .val (.int b5), .val (.int qq), .val (.ref mo), .val (.int gg), .unset, .unset] [])) (fun _ k => XS.ifNo X98.here hx rfl (hb hby at_201) rfl ((if0 _ _).trans (feq hp_e1_1).1) k) ?_
        refine Go.back (f' := (mkF m 206 #[.val (.int sz), .val (.int aa), .val (.int bb), .val (.int cc), .val (.int pp), .val (.int ff), .val (.int nn), .val (.int xx), .val (.int yy), .val (.int zz), .val (.int b1), .val (.int b2), .val (.int b3), .val (.int b4), .val (.int b5), .val (.int qq), .val (.ref mo), .val (.int gg), .unset, .unset] [(.int qq)])) (fun _ k => XS.iload X98.here hx rfl (hb hby at_204) rfl k) ?_
        refine Go.back (f' := (mkF m 208 #[.val (.int sz), .val (.int aa), .val (.int bb), .val (.int cc), .val (.int pp), .val (.int ff), .val (.int nn), .val (.int xx), .val (.int yy), .val (.int zz), .val (.int b1), .val (.int b2), .val (.int b3), .val (.int b4), .val (.int b5), .val (.int qq), .val (.ref mo), .val (.int gg), .unset, .unset] [(.int yy), (.int qq)])) (fun _ k => XS.iload X98.here hx rfl (hb hby at_206) rfl k) ?_
        by_cases hp_e1_2 : qq = yy
        · refine Go.back (f' := (mkF m 211 #[.val (.int sz), .val (.int aa), .val (.int bb), .val (.int cc), .val (.int pp), .val (.int ff), .val (.int nn), .val (.int xx), .val (.int yy), .val (.int zz), .val (.int b1), .val (.int b2), .val (.int b3), .val (.int b4), .val (.int b5), .val (.int qq), .val (.ref mo), .val (.int gg), .unset, .unset] [])) (fun _ k => XS.icmpNo X98.here hx rfl (hb hby at_208) rfl (teq hp_e1_2).2 k) ?_
          refine Go.back (f' := (mkF m 212 #[.val (.int sz), .val (.int aa), .val (.int bb), .val (.int cc), .val (.int pp), .val (.int ff), .val (.int nn), .val (.int xx), .val (.int yy), .val (.int zz), .val (.int b1), .val (.int b2), .val (.int b3), .val (.int b4), .val (.int b5), .val (.int qq), .val (.ref mo), .val (.int gg), .unset, .unset] [(.int (1 : Int32))])) (fun _ k => XS.iconst X98.here hx rfl (hb hby at_211) k) ?_
          refine Go.back (f' := (mkF m 216 #[.val (.int sz), .val (.int aa), .val (.int bb), .val (.int cc), .val (.int pp), .val (.int ff), .val (.int nn), .val (.int xx), .val (.int yy), .val (.int zz), .val (.int b1), .val (.int b2), .val (.int b3), .val (.int b4), .val (.int b5), .val (.int qq), .val (.ref mo), .val (.int gg), .unset, .unset] [(.int (1 : Int32))])) (fun _ k => XS.goto X98.here hx rfl (pc0 := 212) (pc' := 216) rfl (hb hby at_212) (by decide) (by decide) k) ?_
          exact jm99 (1 : Int32) (by simp [hp_e1_0, hp_e1_1, hp_e1_2])
        · refine Go.back (f' := (mkF m 215 #[.val (.int sz), .val (.int aa), .val (.int bb), .val (.int cc), .val (.int pp), .val (.int ff), .val (.int nn), .val (.int xx), .val (.int yy), .val (.int zz), .val (.int b1), .val (.int b2), .val (.int b3), .val (.int b4), .val (.int b5), .val (.int qq), .val (.ref mo), .val (.int gg), .unset, .unset] [])) (fun _ k => XS.icmpYes X98.here hx rfl (pc0 := 208) (pc' := 215) rfl (hb hby at_208) rfl (feq hp_e1_2).2 (by decide) (by decide) k) ?_
          refine Go.back (f' := (mkF m 216 #[.val (.int sz), .val (.int aa), .val (.int bb), .val (.int cc), .val (.int pp), .val (.int ff), .val (.int nn), .val (.int xx), .val (.int yy), .val (.int zz), .val (.int b1), .val (.int b2), .val (.int b3), .val (.int b4), .val (.int b5), .val (.int qq), .val (.ref mo), .val (.int gg), .unset, .unset] [(.int (0 : Int32))])) (fun _ k => XS.iconst X98.here hx rfl (hb hby at_215) k) ?_
          exact jm99 (0 : Int32) (by simp [hp_e1_0, hp_e1_1, hp_e1_2])
    · refine Go.back (f' := (mkF m 187 #[.val (.int sz), .val (.int aa), .val (.int bb), .val (.int cc), .val (.int pp), .val (.int ff), .val (.int nn), .val (.int xx), .val (.int yy), .val (.int zz), .val (.int b1), .val (.int b2), .val (.int b3), .val (.int b4), .val (.int b5), .val (.int qq), .val (.ref mo), .val (.int gg), .unset, .unset] [])) (fun _ k => XS.ifNo X98.here hx rfl (hb hby at_184) rfl ((if0 _ _).trans (feq hp_e1_0).1) k) ?_
      refine Go.back (f' := (mkF m 189 #[.val (.int sz), .val (.int aa), .val (.int bb), .val (.int cc), .val (.int pp), .val (.int ff), .val (.int nn), .val (.int xx), .val (.int yy), .val (.int zz), .val (.int b1), .val (.int b2), .val (.int b3), .val (.int b4), .val (.int b5), .val (.int qq), .val (.ref mo), .val (.int gg), .unset, .unset] [(.int b2)])) (fun _ k => XS.iload X98.here hx rfl (hb hby at_187) rfl k) ?_
      by_cases hp_e1_1 : b2 = 0
      · refine Go.back (f' := (mkF m 192 #[.val (.int sz), .val (.int aa), .val (.int bb), .val (.int cc), .val (.int pp), .val (.int ff), .val (.int nn), .val (.int xx), .val (.int yy), .val (.int zz), .val (.int b1), .val (.int b2), .val (.int b3), .val (.int b4), .val (.int b5), .val (.int qq), .val (.ref mo), .val (.int gg), .unset, .unset] [])) (fun _ k => XS.ifNo X98.here hx rfl (hb hby at_189) rfl ((if0 _ _).trans (teq hp_e1_1).2) k) ?_
        refine Go.back (f' := (mkF m 194 #[.val (.int sz), .val (.int aa), .val (.int bb), .val (.int cc), .val (.int pp), .val (.int ff), .val (.int nn), .val (.int xx), .val (.int yy), .val (.int zz), .val (.int b1), .val (.int b2), .val (.int b3), .val (.int b4), .val (.int b5), .val (.int qq), .val (.ref mo), .val (.int gg), .unset, .unset] [(.int qq)])) (fun _ k => XS.iload X98.here hx rfl (hb hby at_192) rfl k) ?_
        refine Go.back (f' := (mkF m 196 #[.val (.int sz), .val (.int aa), .val (.int bb), .val (.int cc), .val (.int pp), .val (.int ff), .val (.int nn), .val (.int xx), .val (.int yy), .val (.int zz), .val (.int b1), .val (.int b2), .val (.int b3), .val (.int b4), .val (.int b5), .val (.int qq), .val (.ref mo), .val (.int gg), .unset, .unset] [(.int xx), (.int qq)])) (fun _ k => XS.iload X98.here hx rfl (hb hby at_194) rfl k) ?_
        by_cases hp_e1_2 : qq = xx
        · refine Go.back (f' := (mkF m 211 #[.val (.int sz), .val (.int aa), .val (.int bb), .val (.int cc), .val (.int pp), .val (.int ff), .val (.int nn), .val (.int xx), .val (.int yy), .val (.int zz), .val (.int b1), .val (.int b2), .val (.int b3), .val (.int b4), .val (.int b5), .val (.int qq), .val (.ref mo), .val (.int gg), .unset, .unset] [])) (fun _ k => XS.icmpYes X98.here hx rfl (pc0 := 196) (pc' := 211) rfl (hb hby at_196) rfl (teq hp_e1_2).1 (by decide) (by decide) k) ?_
          refine Go.back (f' := (mkF m 212 #[.val (.int sz), .val (.int aa), .val (.int bb), .val (.int cc), .val (.int pp), .val (.int ff), .val (.int nn), .val (.int xx), .val (.int yy), .val (.int zz), .val (.int b1), .val (.int b2), .val (.int b3), .val (.int b4), .val (.int b5), .val (.int qq), .val (.ref mo), .val (.int gg), .unset, .unset] [(.int (1 : Int32))])) (fun _ k => XS.iconst X98.here hx rfl (hb hby at_211) k) ?_
          refine Go.back (f' := (mkF m 216 #[.val (.int sz), .val (.int aa), .val (.int bb), .val (.int cc), .val (.int pp), .val (.int ff), .val (.int nn), .val (.int xx), .val (.int yy), .val (.int zz), .val (.int b1), .val (.int b2), .val (.int b3), .val (.int b4), .val (.int b5), .val (.int qq), .val (.ref mo), .val (.int gg), .unset, .unset] [(.int (1 : Int32))])) (fun _ k => XS.goto X98.here hx rfl (pc0 := 212) (pc' := 216) rfl (hb hby at_212) (by decide) (by decide) k) ?_
          exact jm99 (1 : Int32) (by simp [hp_e1_0, hp_e1_1, hp_e1_2])
        · refine Go.back (f' := (mkF m 199 #[.val (.int sz), .val (.int aa), .val (.int bb), .val (.int cc), .val (.int pp), .val (.int ff), .val (.int nn), .val (.int xx), .val (.int yy), .val (.int zz), .val (.int b1), .val (.int b2), .val (.int b3), .val (.int b4), .val (.int b5), .val (.int qq), .val (.ref mo), .val (.int gg), .unset, .unset] [])) (fun _ k => XS.icmpNo X98.here hx rfl (hb hby at_196) rfl (feq hp_e1_2).1 k) ?_
          refine Go.back (f' := (mkF m 201 #[.val (.int sz), .val (.int aa), .val (.int bb), .val (.int cc), .val (.int pp), .val (.int ff), .val (.int nn), .val (.int xx), .val (.int yy), .val (.int zz), .val (.int b1), .val (.int b2), .val (.int b3), .val (.int b4), .val (.int b5), .val (.int qq), .val (.ref mo), .val (.int gg), .unset, .unset] [(.int b3)])) (fun _ k => XS.iload X98.here hx rfl (hb hby at_199) rfl k) ?_
          by_cases hp_e1_3 : b3 = 0
          · refine Go.back (f' := (mkF m 215 #[.val (.int sz), .val (.int aa), .val (.int bb), .val (.int cc), .val (.int pp), .val (.int ff), .val (.int nn), .val (.int xx), .val (.int yy), .val (.int zz), .val (.int b1), .val (.int b2), .val (.int b3), .val (.int b4), .val (.int b5), .val (.int qq), .val (.ref mo), .val (.int gg), .unset, .unset] [])) (fun _ k => XS.ifYes X98.here hx rfl (pc0 := 201) (pc' := 215) rfl (hb hby at_201) rfl ((if0 _ _).trans (teq hp_e1_3).1) (by decide) (by decide) k) ?_
            refine Go.back (f' := (mkF m 216 #[.val (.int sz), .val (.int aa), .val (.int bb), .val (.int cc), .val (.int pp), .val (.int ff), .val (.int nn), .val (.int xx), .val (.int yy), .val (.int zz), .val (.int b1), .val (.int b2), .val (.int b3), .val (.int b4), .val (.int b5), .val (.int qq), .val (.ref mo), .val (.int gg), .unset, .unset] [(.int (0 : Int32))])) (fun _ k => XS.iconst X98.here hx rfl (hb hby at_215) k) ?_
            exact jm99 (0 : Int32) (by simp [hp_e1_0, hp_e1_1, hp_e1_2, hp_e1_3])
          · refine Go.back (f' := (mkF m 204 #[.val (.int sz), .val (.int aa), .val (.int bb), .val (.int cc), .val (.int pp), .val (.int ff), .val (.int nn), .val (.int xx), .val (.int yy), .val (.int zz), .val (.int b1), .val (.int b2), .val (.int b3), .val (.int b4), .val (.int b5), .val (.int qq), .val (.ref mo), .val (.int gg), .unset, .unset] [])) (fun _ k => XS.ifNo X98.here hx rfl (hb hby at_201) rfl ((if0 _ _).trans (feq hp_e1_3).1) k) ?_
            refine Go.back (f' := (mkF m 206 #[.val (.int sz), .val (.int aa), .val (.int bb), .val (.int cc), .val (.int pp), .val (.int ff), .val (.int nn), .val (.int xx), .val (.int yy), .val (.int zz), .val (.int b1), .val (.int b2), .val (.int b3), .val (.int b4), .val (.int b5), .val (.int qq), .val (.ref mo), .val (.int gg), .unset, .unset] [(.int qq)])) (fun _ k => XS.iload X98.here hx rfl (hb hby at_204) rfl k) ?_
            refine Go.back (f' := (mkF m 208 #[.val (.int sz), .val (.int aa), .val (.int bb), .val (.int cc), .val (.int pp), .val (.int ff), .val (.int nn), .val (.int xx), .val (.int yy), .val (.int zz), .val (.int b1), .val (.int b2), .val (.int b3), .val (.int b4), .val (.int b5), .val (.int qq), .val (.ref mo), .val (.int gg), .unset, .unset] [(.int yy), (.int qq)])) (fun _ k => XS.iload X98.here hx rfl (hb hby at_206) rfl k) ?_
            by_cases hp_e1_4 : qq = yy
            · refine Go.back (f' := (mkF m 211 #[.val (.int sz), .val (.int aa), .val (.int bb), .val (.int cc), .val (.int pp), .val (.int ff), .val (.int nn), .val (.int xx), .val (.int yy), .val (.int zz), .val (.int b1), .val (.int b2), .val (.int b3), .val (.int b4), .val (.int b5), .val (.int qq), .val (.ref mo), .val (.int gg), .unset, .unset] [])) (fun _ k => XS.icmpNo X98.here hx rfl (hb hby at_208) rfl (teq hp_e1_4).2 k) ?_
              refine Go.back (f' := (mkF m 212 #[.val (.int sz), .val (.int aa), .val (.int bb), .val (.int cc), .val (.int pp), .val (.int ff), .val (.int nn), .val (.int xx), .val (.int yy), .val (.int zz), .val (.int b1), .val (.int b2), .val (.int b3), .val (.int b4), .val (.int b5), .val (.int qq), .val (.ref mo), .val (.int gg), .unset, .unset] [(.int (1 : Int32))])) (fun _ k => XS.iconst X98.here hx rfl (hb hby at_211) k) ?_
              refine Go.back (f' := (mkF m 216 #[.val (.int sz), .val (.int aa), .val (.int bb), .val (.int cc), .val (.int pp), .val (.int ff), .val (.int nn), .val (.int xx), .val (.int yy), .val (.int zz), .val (.int b1), .val (.int b2), .val (.int b3), .val (.int b4), .val (.int b5), .val (.int qq), .val (.ref mo), .val (.int gg), .unset, .unset] [(.int (1 : Int32))])) (fun _ k => XS.goto X98.here hx rfl (pc0 := 212) (pc' := 216) rfl (hb hby at_212) (by decide) (by decide) k) ?_
              exact jm99 (1 : Int32) (by simp [hp_e1_0, hp_e1_1, hp_e1_2, hp_e1_3, hp_e1_4])
            · refine Go.back (f' := (mkF m 215 #[.val (.int sz), .val (.int aa), .val (.int bb), .val (.int cc), .val (.int pp), .val (.int ff), .val (.int nn), .val (.int xx), .val (.int yy), .val (.int zz), .val (.int b1), .val (.int b2), .val (.int b3), .val (.int b4), .val (.int b5), .val (.int qq), .val (.ref mo), .val (.int gg), .unset, .unset] [])) (fun _ k => XS.icmpYes X98.here hx rfl (pc0 := 208) (pc' := 215) rfl (hb hby at_208) rfl (feq hp_e1_4).2 (by decide) (by decide) k) ?_
              refine Go.back (f' := (mkF m 216 #[.val (.int sz), .val (.int aa), .val (.int bb), .val (.int cc), .val (.int pp), .val (.int ff), .val (.int nn), .val (.int xx), .val (.int yy), .val (.int zz), .val (.int b1), .val (.int b2), .val (.int b3), .val (.int b4), .val (.int b5), .val (.int qq), .val (.ref mo), .val (.int gg), .unset, .unset] [(.int (0 : Int32))])) (fun _ k => XS.iconst X98.here hx rfl (hb hby at_215) k) ?_
              exact jm99 (0 : Int32) (by simp [hp_e1_0, hp_e1_1, hp_e1_2, hp_e1_3, hp_e1_4])
      · refine Go.back (f' := (mkF m 199 #[.val (.int sz), .val (.int aa), .val (.int bb), .val (.int cc), .val (.int pp), .val (.int ff), .val (.int nn), .val (.int xx), .val (.int yy), .val (.int zz), .val (.int b1), .val (.int b2), .val (.int b3), .val (.int b4), .val (.int b5), .val (.int qq), .val (.ref mo), .val (.int gg), .unset, .unset] [])) (fun _ k => XS.ifYes X98.here hx rfl (pc0 := 189) (pc' := 199) rfl (hb hby at_189) rfl ((if0 _ _).trans (feq hp_e1_1).2) (by decide) (by decide) k) ?_
        refine Go.back (f' := (mkF m 201 #[.val (.int sz), .val (.int aa), .val (.int bb), .val (.int cc), .val (.int pp), .val (.int ff), .val (.int nn), .val (.int xx), .val (.int yy), .val (.int zz), .val (.int b1), .val (.int b2), .val (.int b3), .val (.int b4), .val (.int b5), .val (.int qq), .val (.ref mo), .val (.int gg), .unset, .unset] [(.int b3)])) (fun _ k => XS.iload X98.here hx rfl (hb hby at_199) rfl k) ?_
        by_cases hp_e1_2 : b3 = 0
        · refine Go.back (f' := (mkF m 215 #[.val (.int sz), .val (.int aa), .val (.int bb), .val (.int cc), .val (.int pp), .val (.int ff), .val (.int nn), .val (.int xx), .val (.int yy), .val (.int zz), .val (.int b1), .val (.int b2), .val (.int b3), .val (.int b4), .val (.int b5), .val (.int qq), .val (.ref mo), .val (.int gg), .unset, .unset] [])) (fun _ k => XS.ifYes X98.here hx rfl (pc0 := 201) (pc' := 215) rfl (hb hby at_201) rfl ((if0 _ _).trans (teq hp_e1_2).1) (by decide) (by decide) k) ?_
          refine Go.back (f' := (mkF m 216 #[.val (.int sz), .val (.int aa), .val (.int bb), .val (.int cc), .val (.int pp), .val (.int ff), .val (.int nn), .val (.int xx), .val (.int yy), .val (.int zz), .val (.int b1), .val (.int b2), .val (.int b3), .val (.int b4), .val (.int b5), .val (.int qq), .val (.ref mo), .val (.int gg), .unset, .unset] [(.int (0 : Int32))])) (fun _ k => XS.iconst X98.here hx rfl (hb hby at_215) k) ?_
          exact jm99 (0 : Int32) (by simp [hp_e1_0, hp_e1_1, hp_e1_2])
        · refine Go.back (f' := (mkF m 204 #[.val (.int sz), .val (.int aa), .val (.int bb), .val (.int cc), .val (.int pp), .val (.int ff), .val (.int nn), .val (.int xx), .val (.int yy), .val (.int zz), .val (.int b1), .val (.int b2), .val (.int b3), .val (.int b4), .val (.int b5), .val (.int qq), .val (.ref mo), .val (.int gg), .unset, .unset] [])) (fun _ k => XS.ifNo X98.here hx rfl (hb hby at_201) rfl ((if0 _ _).trans (feq hp_e1_2).1) k) ?_
          refine Go.back (f' := (mkF m 206 #[.val (.int sz), .val (.int aa), .val (.int bb), .val (.int cc), .val (.int pp), .val (.int ff), .val (.int nn), .val (.int xx), .val (.int yy), .val (.int zz), .val (.int b1), .val (.int b2), .val (.int b3), .val (.int b4), .val (.int b5), .val (.int qq), .val (.ref mo), .val (.int gg), .unset, .unset] [(.int qq)])) (fun _ k => XS.iload X98.here hx rfl (hb hby at_204) rfl k) ?_
          refine Go.back (f' := (mkF m 208 #[.val (.int sz), .val (.int aa), .val (.int bb), .val (.int cc), .val (.int pp), .val (.int ff), .val (.int nn), .val (.int xx), .val (.int yy), .val (.int zz), .val (.int b1), .val (.int b2), .val (.int b3), .val (.int b4), .val (.int b5), .val (.int qq), .val (.ref mo), .val (.int gg), .unset, .unset] [(.int yy), (.int qq)])) (fun _ k => XS.iload X98.here hx rfl (hb hby at_206) rfl k) ?_
          by_cases hp_e1_3 : qq = yy
          · refine Go.back (f' := (mkF m 211 #[.val (.int sz), .val (.int aa), .val (.int bb), .val (.int cc), .val (.int pp), .val (.int ff), .val (.int nn), .val (.int xx), .val (.int yy), .val (.int zz), .val (.int b1), .val (.int b2), .val (.int b3), .val (.int b4), .val (.int b5), .val (.int qq), .val (.ref mo), .val (.int gg), .unset, .unset] [])) (fun _ k => XS.icmpNo X98.here hx rfl (hb hby at_208) rfl (teq hp_e1_3).2 k) ?_
            refine Go.back (f' := (mkF m 212 #[.val (.int sz), .val (.int aa), .val (.int bb), .val (.int cc), .val (.int pp), .val (.int ff), .val (.int nn), .val (.int xx), .val (.int yy), .val (.int zz), .val (.int b1), .val (.int b2), .val (.int b3), .val (.int b4), .val (.int b5), .val (.int qq), .val (.ref mo), .val (.int gg), .unset, .unset] [(.int (1 : Int32))])) (fun _ k => XS.iconst X98.here hx rfl (hb hby at_211) k) ?_
            refine Go.back (f' := (mkF m 216 #[.val (.int sz), .val (.int aa), .val (.int bb), .val (.int cc), .val (.int pp), .val (.int ff), .val (.int nn), .val (.int xx), .val (.int yy), .val (.int zz), .val (.int b1), .val (.int b2), .val (.int b3), .val (.int b4), .val (.int b5), .val (.int qq), .val (.ref mo), .val (.int gg), .unset, .unset] [(.int (1 : Int32))])) (fun _ k => XS.goto X98.here hx rfl (pc0 := 212) (pc' := 216) rfl (hb hby at_212) (by decide) (by decide) k) ?_
            exact jm99 (1 : Int32) (by simp [hp_e1_0, hp_e1_1, hp_e1_2, hp_e1_3])
          · refine Go.back (f' := (mkF m 215 #[.val (.int sz), .val (.int aa), .val (.int bb), .val (.int cc), .val (.int pp), .val (.int ff), .val (.int nn), .val (.int xx), .val (.int yy), .val (.int zz), .val (.int b1), .val (.int b2), .val (.int b3), .val (.int b4), .val (.int b5), .val (.int qq), .val (.ref mo), .val (.int gg), .unset, .unset] [])) (fun _ k => XS.icmpYes X98.here hx rfl (pc0 := 208) (pc' := 215) rfl (hb hby at_208) rfl (feq hp_e1_3).2 (by decide) (by decide) k) ?_
            refine Go.back (f' := (mkF m 216 #[.val (.int sz), .val (.int aa), .val (.int bb), .val (.int cc), .val (.int pp), .val (.int ff), .val (.int nn), .val (.int xx), .val (.int yy), .val (.int zz), .val (.int b1), .val (.int b2), .val (.int b3), .val (.int b4), .val (.int b5), .val (.int qq), .val (.ref mo), .val (.int gg), .unset, .unset] [(.int (0 : Int32))])) (fun _ k => XS.iconst X98.here hx rfl (hb hby at_215) k) ?_
            exact jm99 (0 : Int32) (by simp [hp_e1_0, hp_e1_1, hp_e1_2, hp_e1_3])
  intro e1 h_e1
  refine Go.back (f' := (mkF m 218 #[.val (.int sz), .val (.int aa), .val (.int bb), .val (.int cc), .val (.int pp), .val (.int ff), .val (.int nn), .val (.int xx), .val (.int yy), .val (.int zz), .val (.int b1), .val (.int b2), .val (.int b3), .val (.int b4), .val (.int b5), .val (.int qq), .val (.ref mo), .val (.int gg), .val (.int e1), .unset] [])) (fun _ k => XS.istore X98.here hx rfl (hb hby at_216) rfl (l' := #[.val (.int sz), .val (.int aa), .val (.int bb), .val (.int cc), .val (.int pp), .val (.int ff), .val (.int nn), .val (.int xx), .val (.int yy), .val (.int zz), .val (.int b1), .val (.int b2), .val (.int b3), .val (.int b4), .val (.int b5), .val (.int qq), .val (.ref mo), .val (.int gg), .val (.int e1), .unset]) rfl k) ?_
  refine Go.back (f' := (mkF m 220 #[.val (.int sz), .val (.int aa), .val (.int bb), .val (.int cc), .val (.int pp), .val (.int ff), .val (.int nn), .val (.int xx), .val (.int yy), .val (.int zz), .val (.int b1), .val (.int b2), .val (.int b3), .val (.int b4), .val (.int b5), .val (.int qq), .val (.ref mo), .val (.int gg), .val (.int e1), .unset] [(.int e1)])) (fun _ k => XS.iload X98.here hx rfl (hb hby at_218) rfl k) ?_
  suffices jm100 : ∀ e2 : Int32, ((e2 = 0 ∨ e2 = 1) ∧ (e2 = 1 ↔ (e1 = 1 ∧ ¬ (¬ b4 = 0 ∧ qq = zz)))) → Go p e below s (fun v h L => v = some (.int 1) ∧ Fr h0.size L) room_1.cells room_1.slots T98 (mkF m 240 #[.val (.int sz), .val (.int aa), .val (.int bb), .val (.int cc), .val (.int pp), .val (.int ff), .val (.int nn), .val (.int xx), .val (.int yy), .val (.int zz), .val (.int b1), .val (.int b2), .val (.int b3), .val (.int b4), .val (.int b5), .val (.int qq), .val (.ref mo), .val (.int gg), .val (.int e1), .unset] [(.int e2)]) by
    by_cases hp_e2_0 : e1 = 0
    · refine Go.back (f' := (mkF m 239 #[.val (.int sz), .val (.int aa), .val (.int bb), .val (.int cc), .val (.int pp), .val (.int ff), .val (.int nn), .val (.int xx), .val (.int yy), .val (.int zz), .val (.int b1), .val (.int b2), .val (.int b3), .val (.int b4), .val (.int b5), .val (.int qq), .val (.ref mo), .val (.int gg), .val (.int e1), .unset] [])) (fun _ k => XS.ifYes X98.here hx rfl (pc0 := 220) (pc' := 239) rfl (hb hby at_220) rfl ((if0 _ _).trans (teq hp_e2_0).1) (by decide) (by decide) k) ?_
      refine Go.back (f' := (mkF m 240 #[.val (.int sz), .val (.int aa), .val (.int bb), .val (.int cc), .val (.int pp), .val (.int ff), .val (.int nn), .val (.int xx), .val (.int yy), .val (.int zz), .val (.int b1), .val (.int b2), .val (.int b3), .val (.int b4), .val (.int b5), .val (.int qq), .val (.ref mo), .val (.int gg), .val (.int e1), .unset] [(.int (0 : Int32))])) (fun _ k => XS.iconst X98.here hx rfl (hb hby at_239) k) ?_
      exact jm100 (0 : Int32) (by have q1 := h_e1.1;  simp [hp_e2_0])
    · refine Go.back (f' := (mkF m 223 #[.val (.int sz), .val (.int aa), .val (.int bb), .val (.int cc), .val (.int pp), .val (.int ff), .val (.int nn), .val (.int xx), .val (.int yy), .val (.int zz), .val (.int b1), .val (.int b2), .val (.int b3), .val (.int b4), .val (.int b5), .val (.int qq), .val (.ref mo), .val (.int gg), .val (.int e1), .unset] [])) (fun _ k => XS.ifNo X98.here hx rfl (hb hby at_220) rfl ((if0 _ _).trans (feq hp_e2_0).1) k) ?_
      refine Go.back (f' := (mkF m 225 #[.val (.int sz), .val (.int aa), .val (.int bb), .val (.int cc), .val (.int pp), .val (.int ff), .val (.int nn), .val (.int xx), .val (.int yy), .val (.int zz), .val (.int b1), .val (.int b2), .val (.int b3), .val (.int b4), .val (.int b5), .val (.int qq), .val (.ref mo), .val (.int gg), .val (.int e1), .unset] [(.int b4)])) (fun _ k => XS.iload X98.here hx rfl (hb hby at_223) rfl k) ?_
      by_cases hp_e2_1 : b4 = 0
      · refine Go.back (f' := (mkF m 235 #[.val (.int sz), .val (.int aa), .val (.int bb), .val (.int cc), .val (.int pp), .val (.int ff), .val (.int nn), .val (.int xx), .val (.int yy), .val (.int zz), .val (.int b1), .val (.int b2), .val (.int b3), .val (.int b4), .val (.int b5), .val (.int qq), .val (.ref mo), .val (.int gg), .val (.int e1), .unset] [])) (fun _ k => XS.ifYes X98.here hx rfl (pc0 := 225) (pc' := 235) rfl (hb hby at_225) rfl ((if0 _ _).trans (teq hp_e2_1).1) (by decide) (by decide) k) ?_
        refine Go.back (f' := (mkF m 236 #[.val (.int sz), .val (.int aa), .val (.int bb), .val (.int cc), .val (.int pp), .val (.int ff), .val (.int nn), .val (.int xx), .val (.int yy), .val (.int zz), .val (.int b1), .val (.int b2), .val (.int b3), .val (.int b4), .val (.int b5), .val (.int qq), .val (.ref mo), .val (.int gg), .val (.int e1), .unset] [(.int (1 : Int32))])) (fun _ k => XS.iconst X98.here hx rfl (hb hby at_235) k) ?_
        refine Go.back (f' := (mkF m 240 #[.val (.int sz), .val (.int aa), .val (.int bb), .val (.int cc), .val (.int pp), .val (.int ff), .val (.int nn), .val (.int xx), .val (.int yy), .val (.int zz), .val (.int b1), .val (.int b2), .val (.int b3), .val (.int b4), .val (.int b5), .val (.int qq), .val (.ref mo), .val (.int gg), .val (.int e1), .unset] [(.int (1 : Int32))])) (fun _ k => XS.goto X98.here hx rfl (pc0 := 236) (pc' := 240) rfl (hb hby at_236) (by decide) (by decide) k) ?_
        exact jm100 (1 : Int32) (by have q1 := h_e1.1; have q2 := q1.resolve_left hp_e2_0; simp [hp_e2_1, q2])
      · refine Go.back (f' := (mkF m 228 #[.val (.int sz), .val (.int aa), .val (.int bb), .val (.int cc), .val (.int pp), .val (.int ff), .val (.int nn), .val (.int xx), .val (.int yy), .val (.int zz), .val (.int b1), .val (.int b2), .val (.int b3), .val (.int b4), .val (.int b5), .val (.int qq), .val (.ref mo), .val (.int gg), .val (.int e1), .unset] [])) (fun _ k => XS.ifNo X98.here hx rfl (hb hby at_225) rfl ((if0 _ _).trans (feq hp_e2_1).1) k) ?_
        refine Go.back (f' := (mkF m 230 #[.val (.int sz), .val (.int aa), .val (.int bb), .val (.int cc), .val (.int pp), .val (.int ff), .val (.int nn), .val (.int xx), .val (.int yy), .val (.int zz), .val (.int b1), .val (.int b2), .val (.int b3), .val (.int b4), .val (.int b5), .val (.int qq), .val (.ref mo), .val (.int gg), .val (.int e1), .unset] [(.int qq)])) (fun _ k => XS.iload X98.here hx rfl (hb hby at_228) rfl k) ?_
        refine Go.back (f' := (mkF m 232 #[.val (.int sz), .val (.int aa), .val (.int bb), .val (.int cc), .val (.int pp), .val (.int ff), .val (.int nn), .val (.int xx), .val (.int yy), .val (.int zz), .val (.int b1), .val (.int b2), .val (.int b3), .val (.int b4), .val (.int b5), .val (.int qq), .val (.ref mo), .val (.int gg), .val (.int e1), .unset] [(.int zz), (.int qq)])) (fun _ k => XS.iload X98.here hx rfl (hb hby at_230) rfl k) ?_
        by_cases hp_e2_2 : qq = zz
        · refine Go.back (f' := (mkF m 239 #[.val (.int sz), .val (.int aa), .val (.int bb), .val (.int cc), .val (.int pp), .val (.int ff), .val (.int nn), .val (.int xx), .val (.int yy), .val (.int zz), .val (.int b1), .val (.int b2), .val (.int b3), .val (.int b4), .val (.int b5), .val (.int qq), .val (.ref mo), .val (.int gg), .val (.int e1), .unset] [])) (fun _ k => XS.icmpYes X98.here hx rfl (pc0 := 232) (pc' := 239) rfl (hb hby at_232) rfl (teq hp_e2_2).1 (by decide) (by decide) k) ?_
          refine Go.back (f' := (mkF m 240 #[.val (.int sz), .val (.int aa), .val (.int bb), .val (.int cc), .val (.int pp), .val (.int ff), .val (.int nn), .val (.int xx), .val (.int yy), .val (.int zz), .val (.int b1), .val (.int b2), .val (.int b3), .val (.int b4), .val (.int b5), .val (.int qq), .val (.ref mo), .val (.int gg), .val (.int e1), .unset] [(.int (0 : Int32))])) (fun _ k => XS.iconst X98.here hx rfl (hb hby at_239) k) ?_
          exact jm100 (0 : Int32) (by have q1 := h_e1.1; have q2 := q1.resolve_left hp_e2_0; simp [hp_e2_1, hp_e2_2, q2])
        · refine Go.back (f' := (mkF m 235 #[.val (.int sz), .val (.int aa), .val (.int bb), .val (.int cc), .val (.int pp), .val (.int ff), .val (.int nn), .val (.int xx), .val (.int yy), .val (.int zz), .val (.int b1), .val (.int b2), .val (.int b3), .val (.int b4), .val (.int b5), .val (.int qq), .val (.ref mo), .val (.int gg), .val (.int e1), .unset] [])) (fun _ k => XS.icmpNo X98.here hx rfl (hb hby at_232) rfl (feq hp_e2_2).1 k) ?_
          refine Go.back (f' := (mkF m 236 #[.val (.int sz), .val (.int aa), .val (.int bb), .val (.int cc), .val (.int pp), .val (.int ff), .val (.int nn), .val (.int xx), .val (.int yy), .val (.int zz), .val (.int b1), .val (.int b2), .val (.int b3), .val (.int b4), .val (.int b5), .val (.int qq), .val (.ref mo), .val (.int gg), .val (.int e1), .unset] [(.int (1 : Int32))])) (fun _ k => XS.iconst X98.here hx rfl (hb hby at_235) k) ?_
          refine Go.back (f' := (mkF m 240 #[.val (.int sz), .val (.int aa), .val (.int bb), .val (.int cc), .val (.int pp), .val (.int ff), .val (.int nn), .val (.int xx), .val (.int yy), .val (.int zz), .val (.int b1), .val (.int b2), .val (.int b3), .val (.int b4), .val (.int b5), .val (.int qq), .val (.ref mo), .val (.int gg), .val (.int e1), .unset] [(.int (1 : Int32))])) (fun _ k => XS.goto X98.here hx rfl (pc0 := 236) (pc' := 240) rfl (hb hby at_236) (by decide) (by decide) k) ?_
          exact jm100 (1 : Int32) (by have q1 := h_e1.1; have q2 := q1.resolve_left hp_e2_0; simp [hp_e2_1, hp_e2_2, q2])
  intro e2 h_e2
  refine Go.back (f' := (mkF m 242 #[.val (.int sz), .val (.int aa), .val (.int bb), .val (.int cc), .val (.int pp), .val (.int ff), .val (.int nn), .val (.int xx), .val (.int yy), .val (.int zz), .val (.int b1), .val (.int b2), .val (.int b3), .val (.int b4), .val (.int b5), .val (.int qq), .val (.ref mo), .val (.int gg), .val (.int e1), .val (.int e2)] [])) (fun _ k => XS.istore X98.here hx rfl (hb hby at_240) rfl (l' := #[.val (.int sz), .val (.int aa), .val (.int bb), .val (.int cc), .val (.int pp), .val (.int ff), .val (.int nn), .val (.int xx), .val (.int yy), .val (.int zz), .val (.int b1), .val (.int b2), .val (.int b3), .val (.int b4), .val (.int b5), .val (.int qq), .val (.ref mo), .val (.int gg), .val (.int e1), .val (.int e2)]) rfl k) ?_
  refine Go.back (f' := (mkF m 244 #[.val (.int sz), .val (.int aa), .val (.int bb), .val (.int cc), .val (.int pp), .val (.int ff), .val (.int nn), .val (.int xx), .val (.int yy), .val (.int zz), .val (.int b1), .val (.int b2), .val (.int b3), .val (.int b4), .val (.int b5), .val (.int qq), .val (.ref mo), .val (.int gg), .val (.int e1), .val (.int e2)] [(.int gg)])) (fun _ k => XS.iload X98.here hx rfl (hb hby at_242) rfl k) ?_
  refine Go.back (f' := (mkF m 246 #[.val (.int sz), .val (.int aa), .val (.int bb), .val (.int cc), .val (.int pp), .val (.int ff), .val (.int nn), .val (.int xx), .val (.int yy), .val (.int zz), .val (.int b1), .val (.int b2), .val (.int b3), .val (.int b4), .val (.int b5), .val (.int qq), .val (.ref mo), .val (.int gg), .val (.int e1), .val (.int e2)] [(.int e2), (.int gg)])) (fun _ k => XS.iload X98.here hx rfl (hb hby at_244) rfl k) ?_
  refine Go.back (f' := (mkF m 249 #[.val (.int sz), .val (.int aa), .val (.int bb), .val (.int cc), .val (.int pp), .val (.int ff), .val (.int nn), .val (.int xx), .val (.int yy), .val (.int zz), .val (.int b1), .val (.int b2), .val (.int b3), .val (.int b4), .val (.int b5), .val (.int qq), .val (.ref mo), .val (.int gg), .val (.int e1), .val (.int e2)] [])) (fun _ k => XS.icmpNo X98.here hx rfl (hb hby at_246) rfl (teq (own_b2 gg_01 h_e2.1 (by rw [gg_i, h_e2.2, h_e1.2, dx, dy, dz]))).2 k) ?_
  refine Go.back (f' := (mkF m 250 #[.val (.int sz), .val (.int aa), .val (.int bb), .val (.int cc), .val (.int pp), .val (.int ff), .val (.int nn), .val (.int xx), .val (.int yy), .val (.int zz), .val (.int b1), .val (.int b2), .val (.int b3), .val (.int b4), .val (.int b5), .val (.int qq), .val (.ref mo), .val (.int gg), .val (.int e1), .val (.int e2)] [(.int (1 : Int32))])) (fun _ k => XS.iconst X98.here hx rfl (hb hby at_249) k) ?_
  refine Go.back (f' := (mkF m 254 #[.val (.int sz), .val (.int aa), .val (.int bb), .val (.int cc), .val (.int pp), .val (.int ff), .val (.int nn), .val (.int xx), .val (.int yy), .val (.int zz), .val (.int b1), .val (.int b2), .val (.int b3), .val (.int b4), .val (.int b5), .val (.int qq), .val (.ref mo), .val (.int gg), .val (.int e1), .val (.int e2)] [(.int (1 : Int32))])) (fun _ k => XS.goto X98.here hx rfl (pc0 := 250) (pc' := 254) rfl (hb hby at_250) (by decide) (by decide) k) ?_
  exact Go.retN X98 hx (t := .boolean) hret (by simp) (w := (1 : Int32)) rfl hlk (hb hby at_254) (by (try rw [hh98]); exact ⟨rfl, I97.2.1.fr⟩) (by decide) (by decide)
set_option maxRecDepth 65536 in
set_option maxHeartbeats 40000000 in
theorem comes_1 {Post : Tables → Env → Array Value → State → Outcome → State → Prop} (hpost : ∀ tb e args s v u, (limb_1_1.after args s (.returned v) u = true ∧ limb_1_2.after args s (.returned v) u = true ∧ True) → FrameEnd s (.returned v) u (Jvm.fieldLocs frame_1_writes args s ++ Jvm.arrayLocs frame_1_arrays args s ++ Jvm.staticLocs frame_1_statics s) 16 192 → Post tb e args s (.returned v) u) :
    ArmFor flags0 classFile x code maxLocals ret World_1 tables_1 room_1 Calls_1 rest_1 Pre_1 Post := by
  intro l hfl _ _ p e ha hc hk s m args below hf hA hF happ hP
  obtain ⟨hcalls, hrest, hpre⟩ := hP
  obtain ⟨-, -, -, hnamed, -, -, -, hat⟩ := (Spec.applies_iff hf).mp happ
  obtain ⟨hg, hn⟩ := and_e (Cond.before_iff.mp (show (Jvm.Cond.and given_1 narrow_1).before args s = true from hpre))
  obtain ⟨hcnt, hg0⟩ := and_e hg
  obtain ⟨ht0, hg1⟩ := and_e hg0
  obtain ⟨ht1, hg2⟩ := and_e hg1
  obtain ⟨ht2, hg3⟩ := and_e hg2
  obtain ⟨ht3, hg4⟩ := and_e hg3
  obtain ⟨ht4, hg5⟩ := and_e hg4
  have ht5 := hg5
  obtain ⟨w0, w1, w2, w3, w4, w5, rfl⟩ : ∃ w0 w1 w2 w3 w4 w5 : Value, args = #[w0, w1, w2, w3, w4, w5] := by
    have hs : args.size = 6 := by simpa [Cond.value, given_1] using hcnt
    obtain ⟨L⟩ := args
    match L, hs with
    | [w0, w1, w2, w3, w4, w5], _ => exact ⟨w0, w1, w2, w3, w4, w5, rfl⟩
  have hw := fun d (hd : d ∈ tables_1) => atoms_spec (ws := Jvm.Cond.code x code maxLocals ret :: tables_1) hat d (List.mem_cons_of_mem _ hd)
  have hfit : Fit s := fun {y c} hc i hi => by
    obtain ⟨ha, rfl⟩ := Array.getElem?_eq_some_iff.mp hc
    have q := List.all_eq_true.mp ((Array.all_eq_true_iff_forall_mem.mp hF) _ (Array.getElem_mem ha)) i (List.mem_range.mpr hi)
    simpa [Array.getElem?_eq_getElem hi] using q
  obtain ⟨i0, ei0⟩ := is_v ht0
  obtain rfl : w0 = (.int i0) := Option.some.inj ei0
  obtain ⟨i1, ei1⟩ := is_v ht1
  obtain rfl : w1 = (.int i1) := Option.some.inj ei1
  obtain ⟨i2, ei2⟩ := is_v ht2
  obtain rfl : w2 = (.int i2) := Option.some.inj ei2
  obtain ⟨i3, ei3⟩ := is_v ht3
  obtain rfl : w3 = (.int i3) := Option.some.inj ei3
  obtain ⟨i4, ei4⟩ := is_v ht4
  obtain rfl : w4 = (.int i4) := Option.some.inj ei4
  obtain ⟨i5, ei5⟩ := is_v ht5
  obtain rfl : w5 = (.int i5) := Option.some.inj ei5
  obtain ⟨n, o, h1, h2, h3, _, L, rfl, ⟨rfl, N⟩, hq⟩ := (rm0 l s _ hw i0 i1 i2 i3 i4 i5 s.heap) tables_1 p e ha hc hk s m _ below hf ((Spec.applies_iff_loose hf).mp happ).1 ⟨rfl, State.Warmed39.refl s, rfl⟩ trivial
  refine ⟨n, _, h1, h2, h3, hpost _ _ _ _ _ _ ⟨Cond.after_iff.mpr rfl, Cond.after_iff.mpr (eq_i res_at (Term.int_eval (1)) rfl), trivial⟩ ⟨hq.1, hq.2.1, (hq.2.2.sift fun y hy => Or.inr (N y hy)).mono (by decide) (by decide)⟩⟩
theorem main_1_1 : Claimed_1_1 := comes_1 fun _ _ _ _ _ _ h hF => ⟨h.1, hF⟩
theorem main_1_2 : Claimed_1_2 := comes_1 fun _ _ _ _ _ _ h hF => ⟨h.2.1, hF⟩
end Jvm.Pilot.@@N@@
namespace Jvm.Pilot.@@N@@
open Jvm Jvm.ClassFile Sem Op Lib Jvm.Free Jvm.Stand Jvm.Pilot.@@N@@.Jvm.D
/-! MADE BY PROGRAM (witnessworld.py) out of the Statement's table words and the real class files: 12 classes; the members and pool entries that the words name. The judged class is class 1, her method 1. -/
namespace start1
open Jvm.ClassFile
def u (s : String) : CpInfo := .utf8 (stringToUtf16 s)
/-- a pool by its gaps: so many unusable entries, then the entry; so many at the end -/
def gap : Nat → List CpInfo → List CpInfo
  | 0, r => r
  | n + 1, r => .unusable :: gap n r
def poolList (es : List (Nat × CpInfo)) (last : Nat) : List CpInfo := es.foldr (fun e r => gap e.1 (e.2 :: r)) (gap last [])
def pool (es : List (Nat × CpInfo)) (last : Nat) : Array CpInfo := ⟨poolList es last⟩
def fileOf (pool : Array CpInfo) (this : Nat) (attrs : Array Attribute := #[]) (ms : Array MethodInfo := #[]) (fl : Nat := 33) (sup : Nat := 0) (ifs : Array Nat := #[]) (fds : Array FieldInfo := #[]) : ClassFile where
  minorVersion := 0
  majorVersion := 65
  constantPool := pool
  accessFlags := fl
  thisClass := this
  superClass := sup
  interfaces := ifs
  fields := fds
  methods := ms
  attributes := attrs
def plain (name : String) (sup : Option ClassId) : Class where
  name := name
  kind := .ordinary
  loader := none
  accessFlags := 33
  super := sup
  interfaces := #[]
  cf := none
  fields := #[]
  methods := #[]
  instanceTypes := #[]
  staticTypes := #[]
  resolved := #[]
  callSites := []
  init := .initialized
  statics := none
  mirror := none

def pool0 : Array CpInfo := pool [(5, u "<init>"), (0, u "()V"), (1, .class_ 10), (1, u "java/lang/Object")] 113

def k0c0 : Code := { maxStack := 0, maxLocals := 1, code := object_method_1_code, exceptionTable := #[], attributes := #[] }
def k0m0 : Method := { name := "<init>", desc := "()V", sig := { parameters := [], returnType := none }, accessFlags := 1, code := some k0c0 }
/-- java/lang/Object -/
def k0 : Class := { plain "java/lang/Object" none with
  accessFlags := 33
  interfaces := #[]
  cf := some (fileOf pool0 8 #[] #[{ accessFlags := 1, nameIndex := 5, descriptorIndex := 6, attributes := #[] }] 33 0 #[] #[])
  fields := #[]
  methods := #[k0m0]
  instanceTypes := #[]
  staticTypes := #[]
  resolved := Array.replicate 124 none
  statics := none }

def pool1 : Array CpInfo := pool [(2, .class_ 4), (1, u "java/lang/Object"), (0, u "<init>"), (0, u "()V"), (0, .integer 2147483647), (0, .class_ 9), (0, u "com/example/mu_tableau/mutableau/engine/Marks"), (0, .methodref 8 11), (0, .nameAndType 5 12), (0, u "(I)V"), (0, .methodref 8 14), (0, .nameAndType 15 12), (0, u "add"), (0, .methodref 8 17), (0, .nameAndType 18 6), (0, u "clear"), (0, .methodref 8 20), (0, .nameAndType 21 12), (0, u "remove"), (0, .methodref 8 23), (0, .nameAndType 24 25), (0, u "contains"), (0, u "(I)Z"), (0, .class_ 27), (0, u "com/example/mu_tableau/mutableau/engine/MarksContainsPinLaw"), (2, u "law"), (0, u "(IIIIII)Z")] 3

def k1m0 : Method := { name := "<init>", desc := "()V", sig := { parameters := [], returnType := none }, accessFlags := 1, code := none }
def k1c1 : Code := { maxStack := 3, maxLocals := 20, code := code, exceptionTable := #[], attributes := #[] }
def k1m1 : Method := { name := "law", desc := "(IIIIII)Z", sig := { parameters := [.int, .int, .int, .int, .int, .int], returnType := some .boolean }, accessFlags := 9, code := some k1c1 }
/-- com/example/mu_tableau/mutableau/engine/MarksContainsPinLaw -/
def k1 : Class := { plain "com/example/mu_tableau/mutableau/engine/MarksContainsPinLaw" (some 0) with
  accessFlags := 49
  interfaces := #[]
  cf := some (fileOf pool1 26 #[] #[{ accessFlags := 1, nameIndex := 5, descriptorIndex := 6, attributes := #[] }, { accessFlags := 9, nameIndex := 30, descriptorIndex := 31, attributes := #[] }] 49 2 #[] #[])
  fields := #[]
  methods := #[k1m0, k1m1]
  instanceTypes := #[]
  staticTypes := #[]
  resolved := Array.replicate 35 none
  statics := none }

def pool2 : Array CpInfo := pool [(1, .methodref 2 3), (0, .class_ 4), (0, .nameAndType 5 6), (0, u "java/lang/Object"), (0, u "<init>"), (0, u "()V"), (0, .fieldref 8 9), (0, .class_ 10), (0, .nameAndType 11 12), (0, u "com/example/mu_tableau/mutableau/engine/Marks"), (0, u "stamp"), (0, u "I"), (0, .fieldref 8 14), (0, .nameAndType 15 16), (0, u "markedAt"), (0, u "[I"), (0, .methodref 18 19), (0, .class_ 20), (0, .nameAndType 21 22), (0, u "java/lang/Math"), (0, u "max"), (0, u "(II)I"), (0, .methodref 24 25), (0, .class_ 26), (0, .nameAndType 27 28), (0, u "java/util/Arrays"), (0, u "copyOf"), (0, u "([II)[I"), (2, .integer 2147483647), (4, u "(I)V"), (2, u "add"), (1, u "remove"), (0, u "contains"), (0, u "(I)Z"), (0, u "clear")] 2

def k2c0 : Code := { maxStack := 2, maxLocals := 2, code := prog_51_method_1_code, exceptionTable := #[], attributes := #[] }
def k2m0 : Method := { name := "<init>", desc := "(I)V", sig := { parameters := [.int], returnType := none }, accessFlags := 0, code := some k2c0 }
def k2c1 : Code := { maxStack := 5, maxLocals := 2, code := prog_51_method_2_code, exceptionTable := #[], attributes := #[] }
def k2m1 : Method := { name := "add", desc := "(I)V", sig := { parameters := [.int], returnType := none }, accessFlags := 0, code := some k2c1 }
def k2c2 : Code := { maxStack := 3, maxLocals := 2, code := prog_51_method_3_code, exceptionTable := #[], attributes := #[] }
def k2m2 : Method := { name := "remove", desc := "(I)V", sig := { parameters := [.int], returnType := none }, accessFlags := 0, code := some k2c2 }
def k2c3 : Code := { maxStack := 2, maxLocals := 2, code := prog_51_method_4_code, exceptionTable := #[], attributes := #[] }
def k2m3 : Method := { name := "contains", desc := "(I)Z", sig := { parameters := [.int], returnType := some .boolean }, accessFlags := 0, code := some k2c3 }
def k2c4 : Code := { maxStack := 3, maxLocals := 1, code := prog_51_method_5_code, exceptionTable := #[], attributes := #[] }
def k2m4 : Method := { name := "clear", desc := "()V", sig := { parameters := [], returnType := none }, accessFlags := 0, code := some k2c4 }
/-- com/example/mu_tableau/mutableau/engine/Marks -/
def k2 : Class := { plain "com/example/mu_tableau/mutableau/engine/Marks" (some 0) with
  accessFlags := 32
  interfaces := #[]
  cf := some (fileOf pool2 8 #[] #[{ accessFlags := 0, nameIndex := 5, descriptorIndex := 36, attributes := #[] }, { accessFlags := 0, nameIndex := 39, descriptorIndex := 36, attributes := #[] }, { accessFlags := 0, nameIndex := 41, descriptorIndex := 36, attributes := #[] }, { accessFlags := 0, nameIndex := 42, descriptorIndex := 43, attributes := #[] }, { accessFlags := 0, nameIndex := 44, descriptorIndex := 6, attributes := #[] }] 32 2 #[] #[{ accessFlags := 2, nameIndex := 15, descriptorIndex := 16, attributes := #[] }, { accessFlags := 2, nameIndex := 11, descriptorIndex := 12, attributes := #[] }])
  fields := #[{ name := "markedAt", type := (.array .int), accessFlags := 2, slot := 0, constantValue := 0 }, { name := "stamp", type := .int, accessFlags := 2, slot := 1, constantValue := 0 }]
  methods := #[k2m0, k2m1, k2m2, k2m3, k2m4]
  instanceTypes := #[(.array .int), .int]
  staticTypes := #[]
  resolved := Array.replicate 47 none
  statics := none }

def pool3 : Array CpInfo := pool [(1, .class_ 2), (0, u "java/lang/Math"), (1, .class_ 6), (1, u "java/lang/Object"), (0, u "<init>"), (0, u "()V"), (89, .class_ 100), (1, u "java/lang/Math$RandomNumberGeneratorHolder"), (71, u "negativeZeroFloatBits"), (0, u "J"), (2, u "negativeZeroDoubleBits"), (21, u "max"), (2, u "min"), (43, u "$assertionsDisabled"), (0, u "Z"), (88, u "(II)I"), (2, u "twoToTheDoubleScaleDown"), (0, u "D"), (4, u "twoToTheDoubleScaleUp"), (9, u "E"), (3, u "PI"), (2, u "TAU"), (2, u "DEGREES_TO_RADIANS"), (0, u "RADIANS_TO_DEGREES")] 94

def k3m0 : Method := { name := "<init>", desc := "()V", sig := { parameters := [], returnType := none }, accessFlags := 2, code := none }
def k3c1 : Code := { maxStack := 2, maxLocals := 2, code := jdk_29_method_65_code, exceptionTable := #[], attributes := #[] }
def k3m1 : Method := { name := "max", desc := "(II)I", sig := { parameters := [.int, .int], returnType := some .int }, accessFlags := 9, code := some k3c1 }
def k3c2 : Code := { maxStack := 2, maxLocals := 2, code := jdk_29_method_69_code, exceptionTable := #[], attributes := #[] }
def k3m2 : Method := { name := "min", desc := "(II)I", sig := { parameters := [.int, .int], returnType := some .int }, accessFlags := 9, code := some k3c2 }
/-- java/lang/Math -/
def k3 : Class := { plain "java/lang/Math" (some 0) with
  accessFlags := 49
  interfaces := #[]
  cf := some (fileOf pool3 1 #[.nestMembers #[98]] #[{ accessFlags := 2, nameIndex := 7, descriptorIndex := 8, attributes := #[] }, { accessFlags := 9, nameIndex := 198, descriptorIndex := 335, attributes := #[] }, { accessFlags := 9, nameIndex := 201, descriptorIndex := 335, attributes := #[] }] 49 4 #[] #[{ accessFlags := 25, nameIndex := 354, descriptorIndex := 339, attributes := #[] }, { accessFlags := 25, nameIndex := 358, descriptorIndex := 339, attributes := #[] }, { accessFlags := 25, nameIndex := 361, descriptorIndex := 339, attributes := #[] }, { accessFlags := 26, nameIndex := 364, descriptorIndex := 339, attributes := #[] }, { accessFlags := 26, nameIndex := 365, descriptorIndex := 339, attributes := #[] }, { accessFlags := 26, nameIndex := 172, descriptorIndex := 173, attributes := #[] }, { accessFlags := 26, nameIndex := 176, descriptorIndex := 173, attributes := #[] }, { accessFlags := 8, nameIndex := 344, descriptorIndex := 339, attributes := #[] }, { accessFlags := 8, nameIndex := 338, descriptorIndex := 339, attributes := #[] }, { accessFlags := 4120, nameIndex := 245, descriptorIndex := 246, attributes := #[] }])
  fields := #[{ name := "E", type := .double, accessFlags := 25, slot := 0, constantValue := 0 }, { name := "PI", type := .double, accessFlags := 25, slot := 1, constantValue := 0 }, { name := "TAU", type := .double, accessFlags := 25, slot := 2, constantValue := 0 }, { name := "DEGREES_TO_RADIANS", type := .double, accessFlags := 26, slot := 3, constantValue := 0 }, { name := "RADIANS_TO_DEGREES", type := .double, accessFlags := 26, slot := 4, constantValue := 0 }, { name := "negativeZeroFloatBits", type := .long, accessFlags := 26, slot := 5, constantValue := 0 }, { name := "negativeZeroDoubleBits", type := .long, accessFlags := 26, slot := 6, constantValue := 0 }, { name := "twoToTheDoubleScaleUp", type := .double, accessFlags := 8, slot := 7, constantValue := 0 }, { name := "twoToTheDoubleScaleDown", type := .double, accessFlags := 8, slot := 8, constantValue := 0 }, { name := "$assertionsDisabled", type := .boolean, accessFlags := 4120, slot := 9, constantValue := 0 }]
  methods := #[k3m0, k3m1, k3m2]
  instanceTypes := #[]
  staticTypes := #[.double, .double, .double, .double, .double, .long, .long, .double, .double, .boolean]
  resolved := Array.replicate 460 none
  statics := none }

def pool4 : Array CpInfo := pool [(2, .class_ 4), (1, u "java/lang/Object"), (0, u "<init>"), (0, u "()V"), (7, .class_ 16), (1, u "java/util/Arrays"), (57, .class_ 76), (1, u "java/util/Arrays$NaturalOrder"), (36, .class_ 115), (1, u "java/util/Arrays$LegacyMergeSort"), (1, u "Z"), (32, .methodref 151 152), (0, .class_ 153), (0, .nameAndType 154 155), (0, u "java/lang/System"), (0, u "arraycopy"), (0, u "(Ljava/lang/Object;ILjava/lang/Object;II)V"), (146, u "copyOf"), (1, .methodref 305 306), (0, .class_ 307), (0, .nameAndType 308 309), (0, u "java/lang/Math"), (0, u "min"), (0, u "(II)I"), (65, .class_ 376), (0, u "java/util/Arrays$ArrayList"), (68, u "$assertionsDisabled"), (269, u "MIN_ARRAY_SORT_GRAN"), (0, u "I"), (2, u "INSERTIONSORT_THRESHOLD"), (151, u "([II)[I"), (103, .class_ 976), (0, u "java/util/Arrays$ArrayItr")] 52

def k4m0 : Method := { name := "<init>", desc := "()V", sig := { parameters := [], returnType := none }, accessFlags := 2, code := none }
def k4c1 : Code := { maxStack := 6, maxLocals := 3, code := jdk_65_method_123_code, exceptionTable := #[], attributes := #[] }
def k4m1 : Method := { name := "copyOf", desc := "([II)[I", sig := { parameters := [(.array .int), .int], returnType := some (.array .int) }, accessFlags := 9, code := some k4c1 }
/-- java/util/Arrays -/
def k4 : Class := { plain "java/util/Arrays" (some 0) with
  accessFlags := 49
  interfaces := #[]
  cf := some (fileOf pool4 14 #[.nestMembers #[975, 375, 113, 74]] #[{ accessFlags := 2, nameIndex := 5, descriptorIndex := 6, attributes := #[] }, { accessFlags := 9, nameIndex := 302, descriptorIndex := 871, attributes := #[] }] 49 2 #[] #[{ accessFlags := 26, nameIndex := 715, descriptorIndex := 716, attributes := #[] }, { accessFlags := 26, nameIndex := 719, descriptorIndex := 716, attributes := #[] }, { accessFlags := 4120, nameIndex := 445, descriptorIndex := 117, attributes := #[] }])
  fields := #[{ name := "MIN_ARRAY_SORT_GRAN", type := .int, accessFlags := 26, slot := 0, constantValue := 0 }, { name := "INSERTIONSORT_THRESHOLD", type := .int, accessFlags := 26, slot := 1, constantValue := 0 }, { name := "$assertionsDisabled", type := .boolean, accessFlags := 4120, slot := 2, constantValue := 0 }]
  methods := #[k4m0, k4m1]
  instanceTypes := #[]
  staticTypes := #[.int, .int, .boolean]
  resolved := Array.replicate 1029 none
  statics := none }

def pool5 : Array CpInfo := pool [(2, .class_ 4), (1, u "java/lang/Object"), (0, u "<init>"), (0, u "()V"), (1, .class_ 10), (1, u "java/lang/System"), (0, u "allowSecurityManager"), (0, u "I"), (16, u "cons"), (0, u "Ljava/io/Console;"), (77, .class_ 110), (1, u "java/lang/System$CallersHolder"), (43, u "initialErrStream"), (0, u "Ljava/io/PrintStream;"), (19, u "security"), (0, u "Ljava/lang/SecurityManager;"), (31, .class_ 209), (0, u "java/lang/System$1"), (7, u "props"), (0, u "Ljava/util/Properties;"), (2, u "lineSeparator"), (0, u "Ljava/lang/String;"), (96, .class_ 321), (1, u "java/lang/System$LoggerFinder"), (5, .class_ 328), (0, u "java/lang/System$Logger"), (67, u "err"), (2, u "out"), (91, u "notSupportedJnuEncoding"), (15, u "in"), (17, u "initialIn"), (0, u "Ljava/io/InputStream;"), (35, u "bootLayer"), (0, u "Ljava/lang/ModuleLayer;"), (99, .class_ 664), (0, u "java/lang/System$2"), (9, u "NEVER"), (2, u "MAYBE"), (49, u "arraycopy"), (0, u "(Ljava/lang/Object;ILjava/lang/Object;II)V"), (72, .class_ 802), (0, u "java/lang/System$Logger$Level")] 31

def k5m0 : Method := { name := "<init>", desc := "()V", sig := { parameters := [], returnType := none }, accessFlags := 2, code := none }
def k5m1 : Method := { name := "arraycopy", desc := "(Ljava/lang/Object;ILjava/lang/Object;II)V", sig := { parameters := [(.object "java/lang/Object"), .int, (.object "java/lang/Object"), .int, .int], returnType := none }, accessFlags := 265, code := none }
/-- java/lang/System -/
def k5 : Class := { plain "java/lang/System" (some 0) with
  accessFlags := 49
  interfaces := #[]
  cf := some (fileOf pool5 8 #[.nestMembers #[319, 327, 801, 108, 663, 208]] #[{ accessFlags := 2, nameIndex := 5, descriptorIndex := 6, attributes := #[] }, { accessFlags := 265, nameIndex := 727, descriptorIndex := 728, attributes := #[] }] 49 2 #[] #[{ accessFlags := 25, nameIndex := 507, descriptorIndex := 526, attributes := #[] }, { accessFlags := 25, nameIndex := 399, descriptorIndex := 155, attributes := #[] }, { accessFlags := 25, nameIndex := 396, descriptorIndex := 155, attributes := #[] }, { accessFlags := 10, nameIndex := 525, descriptorIndex := 526, attributes := #[] }, { accessFlags := 26, nameIndex := 674, descriptorIndex := 12, attributes := #[] }, { accessFlags := 26, nameIndex := 677, descriptorIndex := 12, attributes := #[] }, { accessFlags := 10, nameIndex := 11, descriptorIndex := 12, attributes := #[] }, { accessFlags := 74, nameIndex := 175, descriptorIndex := 176, attributes := #[] }, { accessFlags := 10, nameIndex := 491, descriptorIndex := 222, attributes := #[] }, { accessFlags := 74, nameIndex := 29, descriptorIndex := 30, attributes := #[] }, { accessFlags := 74, nameIndex := 154, descriptorIndex := 155, attributes := #[] }, { accessFlags := 10, nameIndex := 217, descriptorIndex := 218, attributes := #[] }, { accessFlags := 10, nameIndex := 221, descriptorIndex := 222, attributes := #[] }, { accessFlags := 8, nameIndex := 562, descriptorIndex := 563, attributes := #[] }])
  fields := #[{ name := "in", type := (.object "java/io/InputStream"), accessFlags := 25, slot := 0, constantValue := 0 }, { name := "out", type := (.object "java/io/PrintStream"), accessFlags := 25, slot := 1, constantValue := 0 }, { name := "err", type := (.object "java/io/PrintStream"), accessFlags := 25, slot := 2, constantValue := 0 }, { name := "initialIn", type := (.object "java/io/InputStream"), accessFlags := 10, slot := 3, constantValue := 0 }, { name := "NEVER", type := .int, accessFlags := 26, slot := 4, constantValue := 0 }, { name := "MAYBE", type := .int, accessFlags := 26, slot := 5, constantValue := 0 }, { name := "allowSecurityManager", type := .int, accessFlags := 10, slot := 6, constantValue := 0 }, { name := "security", type := (.object "java/lang/SecurityManager"), accessFlags := 74, slot := 7, constantValue := 0 }, { name := "notSupportedJnuEncoding", type := (.object "java/lang/String"), accessFlags := 10, slot := 8, constantValue := 0 }, { name := "cons", type := (.object "java/io/Console"), accessFlags := 74, slot := 9, constantValue := 0 }, { name := "initialErrStream", type := (.object "java/io/PrintStream"), accessFlags := 74, slot := 10, constantValue := 0 }, { name := "props", type := (.object "java/util/Properties"), accessFlags := 10, slot := 11, constantValue := 0 }, { name := "lineSeparator", type := (.object "java/lang/String"), accessFlags := 10, slot := 12, constantValue := 0 }, { name := "bootLayer", type := (.object "java/lang/ModuleLayer"), accessFlags := 8, slot := 13, constantValue := 0 }]
  methods := #[k5m0, k5m1]
  instanceTypes := #[]
  staticTypes := #[(.object "java/io/InputStream"), (.object "java/io/PrintStream"), (.object "java/io/PrintStream"), (.object "java/io/InputStream"), .int, .int, .int, (.object "java/lang/SecurityManager"), (.object "java/lang/String"), (.object "java/io/Console"), (.object "java/io/PrintStream"), (.object "java/util/Properties"), (.object "java/lang/String"), (.object "java/lang/ModuleLayer")]
  resolved := Array.replicate 834 none
  statics := none }

def pool6 : Array CpInfo := pool [(1, u "java/lang/Cloneable"), (0, .class_ 1), (0, u "java/lang/Object"), (0, .class_ 3)] 3

/-- java/lang/Cloneable -/
def k6 : Class := { plain "java/lang/Cloneable" (some 0) with
  accessFlags := 1537
  interfaces := #[]
  cf := some (fileOf pool6 2 #[] #[] 1537 4 #[] #[])
  fields := #[]
  methods := #[]
  instanceTypes := #[]
  staticTypes := #[]
  resolved := Array.replicate 8 none
  statics := none }

def pool7 : Array CpInfo := pool [(1, u "java/io/Serializable"), (0, .class_ 1), (0, u "java/lang/Object"), (0, .class_ 3)] 3

/-- java/io/Serializable -/
def k7 : Class := { plain "java/io/Serializable" (some 0) with
  accessFlags := 1537
  interfaces := #[]
  cf := some (fileOf pool7 2 #[] #[] 1537 4 #[] #[])
  fields := #[]
  methods := #[]
  instanceTypes := #[]
  staticTypes := #[]
  resolved := Array.replicate 8 none
  statics := none }

/-- the primitive byte -/
def k8 : Class := { plain "byte" none with kind := .primitive 'B', accessFlags := 0x411 }
/-- [B -/
def k9 : Class := { plain "[B" (some 0) with kind := .array 8 .byte, interfaces := #[6, 7], accessFlags := 1041 }

/-- the primitive int -/
def k10 : Class := { plain "int" none with kind := .primitive 'I', accessFlags := 0x411 }
/-- [I -/
def k11 : Class := { plain "[I" (some 0) with kind := .array 10 .int, interfaces := #[6, 7], accessFlags := 1041 }

def heap : Heap := #[]
def classes : Array Class := #[k0, k1, k2, k3, k4, k5, k6, k7, k8, k9, k10, k11]
def interned : List (Array UInt16 × Addr) := []
def slotsUsed : Nat := 0
def theMethod : MethodId := ⟨1, 1⟩
def args0 : Array Value := #[.int 1, .int 2, .int 3, .int 4, .int 5, .int 6]
def aboutOver (below : List Frame) : State where
  vm := { classes := classes, interned := interned.toArray }
  heap := heap
  slotsUsed := slotsUsed
  threads := #[{ frames := .invoking theMethod args0 :: below }]
def below0 : List Frame := [.native { method := ⟨0, 0⟩, args := #[] }]
def about1 : State := aboutOver below0
def p0 : Program := .bare "" "" ""
def e0 : Env := launch0.env 0 0 0
theorem w_frames : about1.frames = Frame.invoking theMethod args0 :: below0 := rfl
set_option maxRecDepth 65536 in
theorem w_args : argsFit about1.vm theMethod args0 = true := by decide +kernel
set_option maxRecDepth 65536 in
theorem w_heap : heapFits about1 = true := by decide +kernel
set_option maxRecDepth 65536 in
theorem w_runnable : about1.curStatus? = some .runnable := by decide +kernel
set_option maxRecDepth 65536 in
theorem w_alone : about1.alone = true := by decide +kernel
set_option maxRecDepth 65536 in
theorem w_named : about1.methodNamed? x = some theMethod := by decide +kernel
set_option maxRecDepth 65536 in
theorem w_hears : about1.hears theMethod below0 = true := by decide +kernel
set_option maxRecDepth 65536 in
theorem w_ripe : about1.ripe theMethod args0 below0 = true := by decide +kernel
theorem w_running : about1.status = .running := rfl
set_option maxRecDepth 65536 in
theorem w_room : about1.hasRoom e0.platform room_1 = true :=
  launch0.hasRoom_least _ room_1 (by decide +kernel) (by decide +kernel) (by decide +kernel) (by decide +kernel) (by decide +kernel) (by decide +kernel)
theorem allAtoms_all (ts : List Jvm.Cond) (a : Array Jvm.Value) (st : Jvm.State) : (allAtoms ts).before a st = ts.all (fun c => c.before a st) := by
  induction ts with
  | nil => rfl
  | cons c t ih =>
    show (Jvm.Cond.and c (allAtoms t)).before a st = _
    rw [Jvm.Cond.before_and, ih, List.all_cons]
def words1 : List Jvm.Cond := Jvm.Cond.code x code maxLocals ret :: tables_1
/-- a 'code' word, met by the world's own term for the bytes: nothing is compared byte by byte -/
theorem code_word {y : MethodName} {bytes : ByteArray} {mx : Nat} {rt : Option FieldType} {a : Array Value} {s : State} {m : MethodId} {meth : Method} {c : Code} (h1 : s.methodNamed? y = some m) (h2 : s.vm.method? m = some meth) (h3 : meth.code = some c) (h4 : c.code = bytes)
    (h5 : (c.maxLocals == mx && c.exceptionTable.isEmpty && decide (c.maxStack ≤ mostOperands) && decide (meth.sig.returnType = rt) && !meth.locks && decide (parseMethodDescriptor y.desc = some meth.sig)) = true) : (Jvm.Cond.code y bytes mx rt).before a s = true := by
  simp only [Bool.and_eq_true, beq_iff_eq, Bool.not_eq_true', decide_eq_true_eq] at h5
  obtain ⟨⟨⟨⟨⟨g1, g2⟩, g3⟩, g4⟩, g5⟩, g6⟩ := h5
  simp [Cond.before, Cond.holds, Cond.value, h1, h2, h3, h4, g1, g2, g3, g4, g5, g6]
def isCode : Jvm.Cond → Bool
  | .code _ _ _ _ => true
  | _ => false
theorem all_split {L : List Jvm.Cond} {P : Jvm.Cond → Bool} (h1 : L.all (fun c => isCode c || P c) = true) (h2 : ∀ c ∈ L.filter isCode, P c = true) : L.all P = true := by
  refine List.all_eq_true.mpr fun c hc => ?_
  have h := List.all_eq_true.mp h1 c hc
  rcases Bool.eq_false_or_eq_true (isCode c) with hi | hi
  · exact h2 c (List.mem_filter.mpr ⟨hc, hi⟩)
  · simpa [hi] using h
set_option maxRecDepth 65536 in
theorem w_c0 : (Jvm.Cond.code x code maxLocals ret).before args0 about1 = true := code_word (m := ⟨1, 1⟩) (meth := k1m1) (c := k1c1) (by decide +kernel) rfl rfl rfl (by decide +kernel)
set_option maxRecDepth 65536 in
theorem w_c1 : (Jvm.Cond.code ({ cls := "com/example/mu_tableau/mutableau/engine/Marks", name := "<init>", desc := "(I)V" } : Jvm.MethodName) prog_51_method_1_code (2 : Nat) (Option.none : Option Jvm.ClassFile.FieldType)).before args0 about1 = true := code_word (m := ⟨2, 0⟩) (meth := k2m0) (c := k2c0) (by decide +kernel) rfl rfl rfl (by decide +kernel)
set_option maxRecDepth 65536 in
theorem w_c2 : (Jvm.Cond.code ({ cls := "java/lang/Object", name := "<init>", desc := "()V" } : Jvm.MethodName) object_method_1_code (1 : Nat) (Option.none : Option Jvm.ClassFile.FieldType)).before args0 about1 = true := code_word (m := ⟨0, 0⟩) (meth := k0m0) (c := k0c0) (by decide +kernel) rfl rfl rfl (by decide +kernel)
set_option maxRecDepth 65536 in
theorem w_c3 : (Jvm.Cond.code ({ cls := "com/example/mu_tableau/mutableau/engine/Marks", name := "add", desc := "(I)V" } : Jvm.MethodName) prog_51_method_2_code (2 : Nat) (Option.none : Option Jvm.ClassFile.FieldType)).before args0 about1 = true := code_word (m := ⟨2, 1⟩) (meth := k2m1) (c := k2c1) (by decide +kernel) rfl rfl rfl (by decide +kernel)
set_option maxRecDepth 65536 in
theorem w_c4 : (Jvm.Cond.code ({ cls := "java/lang/Math", name := "max", desc := "(II)I" } : Jvm.MethodName) jdk_29_method_65_code (2 : Nat) (Option.some Jvm.ClassFile.FieldType.int)).before args0 about1 = true := code_word (m := ⟨3, 1⟩) (meth := k3m1) (c := k3c1) (by decide +kernel) rfl rfl rfl (by decide +kernel)
set_option maxRecDepth 65536 in
theorem w_c5 : (Jvm.Cond.code ({ cls := "java/util/Arrays", name := "copyOf", desc := "([II)[I" } : Jvm.MethodName) jdk_65_method_123_code (3 : Nat) (Option.some (Jvm.ClassFile.FieldType.array Jvm.ClassFile.FieldType.int))).before args0 about1 = true := code_word (m := ⟨4, 1⟩) (meth := k4m1) (c := k4c1) (by decide +kernel) rfl rfl rfl (by decide +kernel)
set_option maxRecDepth 65536 in
theorem w_c6 : (Jvm.Cond.code ({ cls := "java/lang/Math", name := "min", desc := "(II)I" } : Jvm.MethodName) jdk_29_method_69_code (2 : Nat) (Option.some Jvm.ClassFile.FieldType.int)).before args0 about1 = true := code_word (m := ⟨3, 2⟩) (meth := k3m2) (c := k3c2) (by decide +kernel) rfl rfl rfl (by decide +kernel)
set_option maxRecDepth 65536 in
theorem w_c7 : (Jvm.Cond.code ({ cls := "com/example/mu_tableau/mutableau/engine/Marks", name := "clear", desc := "()V" } : Jvm.MethodName) prog_51_method_5_code (1 : Nat) (Option.none : Option Jvm.ClassFile.FieldType)).before args0 about1 = true := code_word (m := ⟨2, 4⟩) (meth := k2m4) (c := k2c4) (by decide +kernel) rfl rfl rfl (by decide +kernel)
set_option maxRecDepth 65536 in
theorem w_c8 : (Jvm.Cond.code ({ cls := "com/example/mu_tableau/mutableau/engine/Marks", name := "contains", desc := "(I)Z" } : Jvm.MethodName) prog_51_method_4_code (2 : Nat) (Option.some Jvm.ClassFile.FieldType.boolean)).before args0 about1 = true := code_word (m := ⟨2, 3⟩) (meth := k2m3) (c := k2c3) (by decide +kernel) rfl rfl rfl (by decide +kernel)
set_option maxRecDepth 65536 in
theorem w_c9 : (Jvm.Cond.code ({ cls := "com/example/mu_tableau/mutableau/engine/Marks", name := "remove", desc := "(I)V" } : Jvm.MethodName) prog_51_method_3_code (2 : Nat) (Option.none : Option Jvm.ClassFile.FieldType)).before args0 about1 = true := code_word (m := ⟨2, 2⟩) (meth := k2m2) (c := k2c2) (by decide +kernel) rfl rfl rfl (by decide +kernel)
def codes1 : List Jvm.Cond := [Jvm.Cond.code x code maxLocals ret, Jvm.Cond.code ({ cls := "com/example/mu_tableau/mutableau/engine/Marks", name := "<init>", desc := "(I)V" } : Jvm.MethodName) prog_51_method_1_code (2 : Nat) (Option.none : Option Jvm.ClassFile.FieldType), Jvm.Cond.code ({ cls := "java/lang/Object", name := "<init>", desc := "()V" } : Jvm.MethodName) object_method_1_code (1 : Nat) (Option.none : Option Jvm.ClassFile.FieldType), Jvm.Cond.code ({ cls := "com/example/mu_tableau/mutableau/engine/Marks", name := "add", desc := "(I)V" } : Jvm.MethodName) prog_51_method_2_code (2 : Nat) (Option.none : Option Jvm.ClassFile.FieldType), Jvm.Cond.code ({ cls := "java/lang/Math", name := "max", desc := "(II)I" } : Jvm.MethodName) jdk_29_method_65_code (2 : Nat) (Option.some Jvm.ClassFile.FieldType.int), Jvm.Cond.code ({ cls := "java/util/Arrays", name := "copyOf", desc := "([II)[I" } : Jvm.MethodName) jdk_65_method_123_code (3 : Nat) (Option.some (Jvm.ClassFile.FieldType.array Jvm.ClassFile.FieldType.int)), Jvm.Cond.code ({ cls := "java/lang/Math", name := "min", desc := "(II)I" } : Jvm.MethodName) jdk_29_method_69_code (2 : Nat) (Option.some Jvm.ClassFile.FieldType.int), Jvm.Cond.code ({ cls := "com/example/mu_tableau/mutableau/engine/Marks", name := "clear", desc := "()V" } : Jvm.MethodName) prog_51_method_5_code (1 : Nat) (Option.none : Option Jvm.ClassFile.FieldType), Jvm.Cond.code ({ cls := "com/example/mu_tableau/mutableau/engine/Marks", name := "contains", desc := "(I)Z" } : Jvm.MethodName) prog_51_method_4_code (2 : Nat) (Option.some Jvm.ClassFile.FieldType.boolean), Jvm.Cond.code ({ cls := "com/example/mu_tableau/mutableau/engine/Marks", name := "remove", desc := "(I)V" } : Jvm.MethodName) prog_51_method_3_code (2 : Nat) (Option.none : Option Jvm.ClassFile.FieldType)]
set_option maxRecDepth 65536 in
theorem codes_eq : words1.filter isCode = codes1 := rfl
theorem w_codes : ∀ c ∈ words1.filter isCode, c.before args0 about1 = true := by
  rw [codes_eq]
  intro c hc
  simp only [codes1, List.mem_cons, List.not_mem_nil, or_false] at hc
  rcases hc with rfl | rfl | rfl | rfl | rfl | rfl | rfl | rfl | rfl | rfl
  · exact w_c0
  · exact w_c1
  · exact w_c2
  · exact w_c3
  · exact w_c4
  · exact w_c5
  · exact w_c6
  · exact w_c7
  · exact w_c8
  · exact w_c9
set_option maxRecDepth 65536 in
theorem w_t1 : (words1.take 24).all (fun c => isCode c || c.before args0 about1) = true := by decide +kernel
set_option maxRecDepth 65536 in
theorem w_t2 : ((words1.drop 24).take 24).all (fun c => isCode c || c.before args0 about1) = true := by decide +kernel
set_option maxRecDepth 65536 in
theorem w_t3 : ((words1.drop 24).drop 24).all (fun c => isCode c || c.before args0 about1) = true := by decide +kernel
theorem w_tables : (allAtoms (Jvm.Cond.code x code maxLocals ret :: tables_1)).before args0 about1 = true := by
  rw [allAtoms_all]
  show words1.all (fun c => c.before args0 about1) = true
  refine all_split ?_ w_codes
  rw [← List.take_append_drop 24 words1, List.all_append, w_t1, ← List.take_append_drop 24 (words1.drop 24), List.all_append, w_t2, w_t3]
  rfl
set_option maxRecDepth 65536 in
theorem w_case : (Jvm.Cond.and given_1 narrow_1).before args0 about1 = true := by decide +kernel
theorem w_applies : (headSpec (Jvm.Cond.code x code maxLocals ret :: tables_1) room_1).applies x e0.platform about1 = true :=
  (Spec.applies_iff w_frames).mpr ⟨w_running, w_runnable, w_alone, w_named, w_hears, w_ripe, w_room, w_tables⟩
theorem atStart : AtStart classFile x code maxLocals ret World_1 tables_1 room_1 Calls_1 rest_1 Pre_1 launch0 p0 e0 about1 theMethod args0 below0 :=
  ⟨lists_1, trivial, launch0.admits_env _ _ _, launch0.least_env, fairChoices_fair.cas, fairChoices_fair.clock, w_frames, w_args, w_heap, w_applies, trivial, trivial, w_case⟩
end start1
theorem witness_1 : WitnessClaimed_1 := ⟨start1.p0, start1.e0, start1.about1, start1.theMethod, start1.args0, start1.below0, start1.atStart⟩
end Jvm.Pilot.@@N@@
