import JvmDerived
import JvmDerived.Pilot.@@N@@Statement
import JvmDerived.Pilot.@@N@@Code
set_option linter.unusedVariables false
set_option linter.unusedSimpArgs false
namespace Jvm.OwnKit
open Sem ClassFile Op Lib Jvm.Stand Jvm.Free Jvm.LawKit Jvm.RoadKit
section Core
variable {p : Program} {l : Launch} {e : Env} {R : Room} {s : State} {m : MethodId} {args : Array Value} {below : List Frame} {meth : Method} {c : Code} {T T' : State} {locs : List Loc} {cells slots : Nat} {Z : State} {a0 : Array Value} {h : Heap}
  {Q Q' : Option Value → Heap → List Loc → Prop} {kc ks : Nat} {F : Outcome → State → Prop}
/-- from the frame f over T the body comes to its end, and F holds there -/
def GoG (p : Program) (e : Env) (below : List Frame) (F : Outcome → State → Prop) (T : State) (f : JFrame) : Prop :=
  ∃ t o, Steps p.tables e below (T.setTop f) t ∧ t.status = .running ∧ Ended t below o ∧ F o t
/-- .. Q holds there, and the frame is kept -/
def Fin (s : State) (Q : Option Value → Heap → List Loc → Prop) (kc ks : Nat) : Outcome → State → Prop := fun o t => ∃ v L, o = .returned v ∧ Q v t.heap L ∧ FrameEnd s o t L kc ks
abbrev Go (p : Program) (e : Env) (below : List Frame) (s : State) (Q : Option Value → Heap → List Loc → Prop) (kc ks : Nat) (T : State) (f : JFrame) : Prop := GoG p e below (Fin s Q kc ks) T f
theorem Go.back {f f' : JFrame} (st : ∀ t, Steps p.tables e below (T'.setTop f') t → Steps p.tables e below (T.setTop f) t) (k : GoG p e below F T' f') : GoG p e below F T f := by
  obtain ⟨t, o, h1, h2⟩ := k; exact ⟨t, o, st _ h1, h2⟩
theorem Go.cast {f f' : JFrame} (q : f = f') (k : GoG p e below F T f') : GoG p e below F T f := q ▸ k
theorem Go.imp {f : JFrame} (q : ∀ v h L, Q' v h L → Q v h L) (k : Go p e below s Q' kc ks T f) : Go p e below s Q kc ks T f := by
  obtain ⟨t, o, h1, h2, h3, v, L, h4, h5, h6⟩ := k; exact ⟨t, o, h1, h2, h3, v, L, h4, q _ _ _ h5, h6⟩
theorem Go.done (X : Stand p l e R s m args below meth c T locs cells slots) {v : Option Value} {f0 : JFrame} (hv : meth.sig.returnType = none → v = none) (hlk : meth.locks = false)
    (st : ∀ fs, (∀ (f : JFrame) (acts : List Action), f.method = m → f.locked = none → f.entered = [] → (doReturn e (T.setTop f) acts v).1 = T.setFrames fs) → Steps p.tables e below (T.setTop f0) (T.setFrames fs))
    (hQ : Q v T.heap locs) (hc : cells ≤ kc) (hs : slots ≤ ks) : Go p e below s Q kc ks T f0 := by
  obtain ⟨fs, hr, hrun, hended, hW, hsame⟩ := X.leave (v := v) hv hlk
  exact ⟨_, _, st fs hr, hrun, hended, v, locs, rfl, hQ, ⟨_, rfl⟩, hW, hsame.mono hc hs⟩
theorem Go.retI (X : Stand p l e R s m args below meth c T locs cells slots) (hx : p.tables.exec = Jvm.exec) {pc : Nat} {Ls : Array Slot} {z : Int32} {rest : List Value} (hret : meth.sig.returnType = some .int) (hlk : meth.locks = false) (hd : decode c.code pc = .ok (.ireturn, 1))
    (hQ : Q (some (.int z)) T.heap locs) (hc : cells ≤ kc) (hs : slots ≤ ks) : Go p e below s Q kc ks T (mkF m pc Ls (.int z :: rest)) :=
  Go.done X (fun q => by rw [hret] at q; cases q) hlk (fun _ hl => retOut X hx hret rfl (Or.inl ⟨rfl, Or.inl rfl, z, rfl⟩) hd hl) hQ hc hs
theorem Go.retJ (X : Stand p l e R s m args below meth c T locs cells slots) (hx : p.tables.exec = Jvm.exec) {pc : Nat} {Ls : Array Slot} {z : Int64} {rest : List Value} (hret : meth.sig.returnType = some .long) (hlk : meth.locks = false) (hd : decode c.code pc = .ok (.lreturn, 1))
    (hQ : Q (some (.long z)) T.heap locs) (hc : cells ≤ kc) (hs : slots ≤ ks) : Go p e below s Q kc ks T (mkF m pc Ls (.long z :: rest)) :=
  Go.done X (fun q => by rw [hret] at q; cases q) hlk (fun _ hl => retOut X hx hret rfl (Or.inr (Or.inl ⟨rfl, rfl, z, rfl⟩)) hd hl) hQ hc hs
theorem narrow_ref {t : FieldType} {w : Value} (hw : w.isRef = true) : narrow t w = w := by
  cases w <;> simp [Value.isRef] at hw <;> cases t <;> rfl
theorem Go.retA (X : Stand p l e R s m args below meth c T locs cells slots) (hx : p.tables.exec = Jvm.exec) {pc : Nat} {Ls : Array Slot} {w : Value} {t : FieldType} {rest : List Value} (hret : meth.sig.returnType = some t) (hlk : meth.locks = false) (hd : decode c.code pc = .ok (.areturn, 1)) (ht : t.isReference = true) (hw : w.isRef = true)
    (hQ : Q (some w) T.heap locs) (hc : cells ≤ kc) (hs : slots ≤ ks) : Go p e below s Q kc ks T (mkF m pc Ls (w :: rest)) :=
  Go.done X (fun q => by rw [hret] at q; cases q) hlk (fun _ hl => retOut X hx hret (narrow_ref hw) (Or.inr (Or.inr (Or.inr (Or.inr ⟨rfl, ht, hw⟩)))) hd hl) hQ hc hs
theorem Go.ret0 (X : Stand p l e R s m args below meth c T locs cells slots) (hx : p.tables.exec = Jvm.exec) {pc : Nat} {Ls : Array Slot} (hret : meth.sig.returnType = none) (hlk : meth.locks = false) (hd : decode c.code pc = .ok (.return_, 1))
    (hQ : Q none T.heap locs) (hc : cells ≤ kc) (hs : slots ≤ ks) : Go p e below s Q kc ks T (mkF m pc Ls []) :=
  Go.done X (fun _ => rfl) hlk (fun _ hl => X.returnOut hx hret hd hl) hQ hc hs
theorem Go.retN (X : Stand p l e R s m args below meth c T locs cells slots) (hx : p.tables.exec = Jvm.exec) {pc : Nat} {Ls : Array Slot} {z w : Int32} {t : FieldType} {rest : List Value} (hret : meth.sig.returnType = some t) (ht : t = .boolean ∨ t = .byte ∨ t = .char ∨ t = .short) (hw : nar t z = w) (hlk : meth.locks = false) (hd : decode c.code pc = .ok (.ireturn, 1))
    (hQ : Q (some (.int w)) T.heap locs) (hc : cells ≤ kc) (hs : slots ≤ ks) : Go p e below s Q kc ks T (mkF m pc Ls (.int z :: rest)) :=
  Go.done X (fun q => by rw [hret] at q; cases q) hlk (fun _ hl => Jvm.RoadKit.retN X hx hret ht hd (by rw [hw]; exact hl)) hQ hc hs
theorem nar_bool {z : Int32} (hz : z = 0 ∨ z = 1) : nar .boolean z = z := by rcases hz with rfl | rfl <;> rfl
/-- a body's contract, said of one heap and one array of arguments -/
def Met (l : Launch) (Z : State) (y : MethodName) (bytes : ByteArray) (maxL : Nat) (ret : Option FieldType) (rm : Room) (as' : Array Value) (h : Heap) (Q : Option Value → Heap → List Loc → Prop) : Prop :=
  ∀ ws : List Jvm.Cond, MetFree l y (head1 (Jvm.Cond.code y bytes maxL ret :: ws) rm) (fun a U => a = as' ∧ Z.Warmed39 U.vm ∧ U.heap = h) (fun _ _ _ _ _ => True) (fun _ U o U' => ∃ v L, o = .returned v ∧ Q v U'.heap L ∧ FrameEnd U o U' L rm.cells rm.slots)
variable {y z : MethodName} {bytes : ByteArray} {maxL : Nat} {ret : Option FieldType} {rm : Room} {as' : Array Value}
theorem Met.intro (hp : plainFor y = true) (body : ∀ (p : Program) (e : Env) (s : State) (m : MethodId) (below : List Frame) (meth : Method) (c : Code) (T : State),
      p.tables.exec = Jvm.exec → c.code = bytes → c.maxLocals = maxL → s.vm.findClass y.cls = some m.cls → meth.name = y.name → meth.sig.returnType = ret → meth.locks = false → Z.Warmed39 s.vm →
      Stand p l e rm s m as' below meth c T [] 0 0 → T.heap = h → Go p e below s Q rm.cells rm.slots T (entryFrame m as' maxL)) : Met l Z y bytes maxL ret rm as' h Q := by
  intro ws
  refine MetFree.of_bodySF hp hisR ?_
  intro p e s m args below meth c s₁ Bd hml0 hP hK
  obtain ⟨rfl, hZ, hh⟩ := hP
  exact body p e s m below meth c s₁ Bd.exec Bd.bytes hml0 (findClass_of_methodNamed Bd.named) (name_of_methodNamed Bd.named Bd.method).1 Bd.returns Bd.notSynchronized hZ (Stand.of_body Bd) (by rw [← hh, Bd.state]; rfl)
theorem Met.imp (q : ∀ v h L, Q' v h L → Q v h L) (k : Met l Z y bytes maxL ret rm as' h Q') : Met l Z y bytes maxL ret rm as' h Q := fun ws p e ha hc hk s m args below hf happ hP hK => by
  obtain ⟨n, o, h1, h2, h3, v, L, h4, h5, h6⟩ := k ws p e ha hc hk s m args below hf happ hP hK
  exact ⟨n, o, h1, h2, h3, v, L, h4, q _ _ _ h5, h6⟩
theorem Go.callS (X : Stand p l e R s m args below meth c T locs cells slots) (hx : p.tables.exec = Jvm.exec) (hZ : Z.Warmed39 s.vm) {own : String} {index : Nat} (hown : s.vm.findClass own = some m.cls)
    (w1 : (Jvm.Cond.methodLink own index y).before a0 Z = true) (w2 : (Jvm.Cond.static y).before a0 Z = true) (w3 : (Jvm.Cond.initialized y.cls).before a0 Z = true) (w4 : (Jvm.Cond.code y bytes maxL ret).before a0 Z = true)
    (hy : y.cls ≠ "java/lang/invoke/MethodHandle" ∧ y.cls ≠ "java/lang/invoke/VarHandle") (eT : T.heap = h) {argsL rest st : List Value} (hM : Met l Z y bytes maxL ret rm argsL.toArray h Q')
    (hlen : ∀ sig, parseMethodDescriptor y.desc = some sig → argsL.length = sig.parameters.length) {pc : Nat} {Ls : Array Slot} (hst : st = argsL.reverse ++ rest) (hsz : Ls.size = c.maxLocals) {W : Nat} (hW : 2 * 0 + (rest.map fun v => v.category).sum ≤ W)
    (hd : decode c.code pc = .ok (.invokestatic index, 3)) (hf : rm.frames + 1 ≤ R.frames) (hl : W + (maxL + 11) + rm.locals ≤ R.locals) (hc : cells + rm.cells ≤ R.cells) (hs : slots + rm.slots ≤ R.slots)
    (k : ∀ v T' L, Stand p l e R s m args below meth c T' (locs ++ L) (cells + rm.cells) (slots + rm.slots) → Q' v T'.heap L → GoG p e below F T' (mkF m (pc + 3) Ls (v.toList ++ rest))) :
    GoG p e below F T (mkF m pc Ls st) := by
  subst hst
  obtain ⟨v, _, ⟨T1, L1, k1, n1⟩, -, X1, ⟨Lc, hQ, l1, y1, z1⟩, st1⟩ := Jvm.LawKit.callS X hx (y := y) hown (mvT hZ w1) (mvT hZ w2) (mvT hZ w3) (mvT hZ w4) hy (backOf (W := W) (hM []) hZ w4 w3 hf hl) (g := mkF m pc Ls (argsL.reverse ++ rest)) rfl hsz (argsL := argsL) (rest := rest) hlen rfl hW hd (fun _ _ => ⟨rfl, eT, hc, hs⟩)
  dsimp only [Pt.U, Pt.locs, Pt.cells, Pt.slots] at X1 l1 y1 z1 st1 hQ
  subst l1 y1 z1
  exact Go.back st1 (k v T1 Lc X1 hQ)
theorem Go.callI (X : Stand p l e R s m args below meth c T locs cells slots) (hx : p.tables.exec = Jvm.exec) (hZ : Z.Warmed39 s.vm) {own : String} {index : Nat} (hy1 : y.name = "<init>") (hown : s.vm.findClass own = some m.cls)
    (w1 : (Jvm.Cond.methodLink own index y).before a0 Z = true) (w2 : (Jvm.Cond.instanceMethod y).before a0 Z = true) (w3 : (Jvm.Cond.initialized y.cls).before a0 Z = true) (w4 : (Jvm.Cond.code y bytes maxL none).before a0 Z = true)
    (hy : y.cls ≠ "java/lang/invoke/MethodHandle" ∧ y.cls ≠ "java/lang/invoke/VarHandle") (eT : T.heap = h) {a : Addr} {argsL rest st : List Value} (hM : Met l Z y bytes maxL none rm (.ref a :: argsL).toArray h Q')
    (hlen : ∀ sig, parseMethodDescriptor y.desc = some sig → argsL.length = sig.parameters.length) {pc : Nat} {Ls : Array Slot} (hst : st = argsL.reverse ++ .ref a :: rest) (hsz : Ls.size = c.maxLocals) {W : Nat} (hW : 2 * 0 + (rest.map fun v => v.category).sum ≤ W)
    (hd : decode c.code pc = .ok (.invokespecial index, 3)) (hf : rm.frames + 1 ≤ R.frames) (hl : W + (maxL + 11) + rm.locals ≤ R.locals) (hc : cells + rm.cells ≤ R.cells) (hs : slots + rm.slots ≤ R.slots)
    (k : ∀ v T' L, Stand p l e R s m args below meth c T' (locs ++ L) (cells + rm.cells) (slots + rm.slots) → Q' v T'.heap L → GoG p e below F T' (mkF m (pc + 3) Ls (v.toList ++ rest))) :
    GoG p e below F T (mkF m pc Ls st) := by
  subst hst
  obtain ⟨v, _, ⟨T1, L1, k1, n1⟩, -, X1, ⟨Lc, hQ, l1, y1, z1⟩, st1⟩ := X.specialBack hx (y := y) hy1 hown (mvT hZ w1) (mvT hZ w2) (mvT hZ w4) hy (backOf (W := W) (hM []) hZ w4 w3 hf hl) (g := mkF m pc Ls (argsL.reverse ++ .ref a :: rest)) rfl hsz (Steps.refl _) (a := a) (argsL := argsL) (rest := rest) hlen rfl hW hd (fun _ _ => ⟨rfl, eT, hc, hs⟩)
  dsimp only [Pt.U, Pt.locs, Pt.cells, Pt.slots] at X1 l1 y1 z1 st1 hQ
  subst l1 y1 z1
  exact Go.back (fun _ q => st1.trans q) (k v T1 Lc X1 hQ)
theorem Go.callV (X : Stand p l e R s m args below meth c T locs cells slots) (hx : p.tables.exec = Jvm.exec) (hZ : Z.Warmed39 s.vm) {own C : String} {index : Nat} (hown : s.vm.findClass own = some m.cls)
    (w1 : (Jvm.Cond.methodLink own index y).before a0 Z = true) (w2 : (Jvm.Cond.declares y).before a0 Z = true) (w3 : (Jvm.Cond.selects C y y).before a0 Z = true) (w4 : (Jvm.Cond.instanceMethod y).before a0 Z = true)
    (w5 : (Jvm.Cond.initialized y.cls).before a0 Z = true) (w6 : (Jvm.Cond.code y bytes maxL ret).before a0 Z = true)
    (hy : y.cls ≠ "java/lang/invoke/MethodHandle" ∧ y.cls ≠ "java/lang/invoke/VarHandle") (eT : T.heap = h) {a : Addr} (E : Exa Z h a C) {argsL rest st : List Value} (hM : Met l Z y bytes maxL ret rm (.ref a :: argsL).toArray h Q')
    (hlen : ∀ sig, parseMethodDescriptor y.desc = some sig → argsL.length = sig.parameters.length) {pc : Nat} {Ls : Array Slot} (hst : st = argsL.reverse ++ .ref a :: rest) (hsz : Ls.size = c.maxLocals) {W : Nat} (hW : 2 * 0 + (rest.map fun v => v.category).sum ≤ W)
    (hd : decode c.code pc = .ok (.invokevirtual index, 3)) (hf : rm.frames + 1 ≤ R.frames) (hl : W + (maxL + 11) + rm.locals ≤ R.locals) (hc : cells + rm.cells ≤ R.cells) (hs : slots + rm.slots ≤ R.slots)
    (k : ∀ v T' L, Stand p l e R s m args below meth c T' (locs ++ L) (cells + rm.cells) (slots + rm.slots) → Q' v T'.heap L → GoG p e below F T' (mkF m (pc + 3) Ls (v.toList ++ rest))) :
    GoG p e below F T (mkF m pc Ls st) := by
  subst hst
  obtain ⟨cq, kq, qa, qb, qc⟩ := isOf hZ eT E
  obtain ⟨v, _, ⟨T1, L1, k1, n1⟩, -, X1, ⟨Lc, hQ, l1, y1, z1⟩, st1⟩ := X.virtualBack hx (y := y) (z := y) hown (mvT hZ w1) (mvT hZ w2) (notFace_of_selects (args := #[]) (mvT hZ w3)) (mvT hZ w3) (mvT hZ w4) hy (backOf (W := W) (hM []) hZ w6 w5 hf hl) qa qc (g := mkF m pc Ls (argsL.reverse ++ .ref a :: rest)) rfl hsz (Steps.refl _) (argsL := argsL) (rest := rest) hlen rfl hW hd (fun _ _ => ⟨rfl, eT, hc, hs⟩)
  dsimp only [Pt.U, Pt.locs, Pt.cells, Pt.slots] at X1 l1 y1 z1 st1 hQ
  subst l1 y1 z1
  exact Go.back (fun _ q => st1.trans q) (k v T1 Lc X1 hQ)
end Core
section Cmp
theorem l_lt_t {x y : Int64} (h : x < y) : ifCond.holds .lt (lcmpW x y) = true := (if0 _ _).trans (tlt ((lw_lt x y).mpr h)).1
theorem l_lt_f {x y : Int64} (h : ¬ x < y) : ifCond.holds .lt (lcmpW x y) = false := (if0 _ _).trans (flt (fun q => h ((lw_lt x y).mp q))).1
theorem l_ge_t {x y : Int64} (h : ¬ x < y) : ifCond.holds .ge (lcmpW x y) = true := (if0 _ _).trans (flt (fun q => h ((lw_lt x y).mp q))).2.1
theorem l_ge_f {x y : Int64} (h : x < y) : ifCond.holds .ge (lcmpW x y) = false := (if0 _ _).trans (tlt ((lw_lt x y).mpr h)).2.1
theorem l_gt_t {x y : Int64} (h : y < x) : ifCond.holds .gt (lcmpW x y) = true := (if0 _ _).trans (tlt ((lw_gt x y).mpr h)).2.2.1
theorem l_gt_f {x y : Int64} (h : ¬ y < x) : ifCond.holds .gt (lcmpW x y) = false := (if0 _ _).trans (flt (fun q => h ((lw_gt x y).mp q))).2.2.1
theorem l_le_t {x y : Int64} (h : ¬ y < x) : ifCond.holds .le (lcmpW x y) = true := (if0 _ _).trans (flt (fun q => h ((lw_gt x y).mp q))).2.2.2
theorem l_le_f {x y : Int64} (h : y < x) : ifCond.holds .le (lcmpW x y) = false := (if0 _ _).trans (tlt ((lw_gt x y).mpr h)).2.2.2
theorem l_eq_t {x y : Int64} (h : x = y) : ifCond.holds .eq (lcmpW x y) = true := (if0 _ _).trans (teq ((lw_eq x y).mpr h)).1
theorem l_eq_f {x y : Int64} (h : ¬ x = y) : ifCond.holds .eq (lcmpW x y) = false := (if0 _ _).trans (feq (fun q => h ((lw_eq x y).mp q))).1
theorem l_ne_t {x y : Int64} (h : ¬ x = y) : ifCond.holds .ne (lcmpW x y) = true := (if0 _ _).trans (feq (fun q => h ((lw_eq x y).mp q))).2
theorem l_ne_f {x y : Int64} (h : x = y) : ifCond.holds .ne (lcmpW x y) = false := (if0 _ _).trans (teq ((lw_eq x y).mpr h)).2
end Cmp
end Jvm.OwnKit
namespace Jvm.OwnKit
open Sem ClassFile Op Lib Jvm.Stand Jvm.Free Jvm.LawKit Jvm.RoadKit
section Arrays
variable {p : Program} {l : Launch} {e : Env} {R : Room} {s : State} {m : MethodId} {args : Array Value} {below : List Frame} {meth : Method} {c : Code} {T T' : State} {locs : List Loc} {cells slots : Nat} {Z : State} {a0 : Array Value} {h h' : Heap}
  {F : Outcome → State → Prop} {a b : Addr} {ty : FieldType} {vs vd : List Value} {j x : Int32} {i : Nat} {v : Value} {pc : Nat} {Ls : Array Slot} {rest : List Value}
/-- an array, all of its components told -/
def VArr (Z : State) (h : Heap) (a : Addr) (ty : FieldType) (vs : List Value) : Prop := vs.length < 2147483648 ∧ ∃ k, Arv Z h a k ty vs.length.toInt32 vs (defaultValue ty)
theorem n32 {n : Nat} (q : n < 2147483648) : n.toInt32.toInt = n := len_toInt q
theorem n32c {n : Nat} (q : n < 2147483648) : n.toInt32.toNatClampNeg = n := by simp only [Int32.toNatClampNeg, n32 q]; rfl
theorem idx0 (hi : j.toInt = i) : ¬ j < 0 := by rw [Int32.lt_iff_toInt_lt, hi]; show ¬ (i : Int) < 0; omega
theorem idxN (hi : j.toInt = i) : j.toNatClampNeg = i := by simp only [Int32.toNatClampNeg, hi]; rfl
theorem VArr.lt (A : VArr Z h a ty vs) : a < h.size := by obtain ⟨-, k, A⟩ := A; exact A.lt
theorem VArr.len (A : VArr Z h a ty vs) : vs.length < 2147483648 := A.1
theorem VArr.ext (A : VArr Z h a ty vs) (E : Ext h h') : VArr Z h' a ty vs := by obtain ⟨q, k, A⟩ := A; exact ⟨q, k, A.ext E⟩
theorem VArr.other {sl : Nat} (A : VArr Z h b ty vs) (W : Wr h h' a sl v) (q : b ≠ a) : VArr Z h' b ty vs := by obtain ⟨r, k, A⟩ := A; exact ⟨r, k, A.other W q⟩
theorem VArr.keep {ws : List Addr} (A : VArr Z h a ty vs) (K : Keep h h' ws) (q : a ∉ ws) : VArr Z h' a ty vs := by obtain ⟨r, k, A⟩ := A; exact ⟨r, k, A.keep K q⟩
theorem VArr.to (A : VArr Z h a ty vs) (e : vs = vd) : VArr Z h a ty vd := e ▸ A
theorem VArr.cell (A : VArr Z h a ty vs) : ∃ cl, Arr Z h a cl ty ∧ cl.slots.size = vs.length ∧ Has cl vs (defaultValue ty) := by
  obtain ⟨q, k, cl, A, -, S, N, H, -⟩ := A
  exact ⟨cl, A, by rw [S, n32c q], H⟩
theorem VArr.at (A : VArr Z h a ty vs) (hi : j.toInt = i) (hv : vs[i]? = some v) : ∃ cl, Arr Z h a cl ty ∧ ¬ (j < 0 ∨ cl.slots.size ≤ j.toNatClampNeg) ∧ cl.slots[j.toNatClampNeg]? = some v := by
  obtain ⟨cl, A, S, H⟩ := A.cell
  obtain ⟨hl, e⟩ := List.getElem?_eq_some_iff.mp hv
  refine ⟨cl, A, fun q => ?_, ?_⟩
  · rw [idxN hi, S] at q; exact q.elim (idx0 hi) (by omega)
  · rw [idxN hi, H i (by omega), List.getD_eq_getElem?_getD, hv]; rfl
theorem VArr.exa_ne {C : String} {kk : Nat} (A : VArr Z h a ty vs) (E : Exa Z h b C) (wi : (Jvm.Cond.instantiable C kk).before a0 Z = true) : b ≠ a := by
  obtain ⟨cl, A, -, -⟩ := A.cell; exact ne_arr E wi A
theorem VArr.lenS (A : VArr Z h a ty vs) (X : Stand p l e R s m args below meth c T locs cells slots) (hx : p.tables.exec = Jvm.exec) (hZ : Z.Warmed39 s.vm) (eT : T.heap = h) (hd : decode c.code pc = .ok (.arraylength, 1)) :
    ∀ t, Steps p.tables e below (T.setTop (mkF m (pc + 1) Ls (.int vs.length.toInt32 :: rest))) t → Steps p.tables e below (T.setTop (mkF m pc Ls (.ref a :: rest))) t := by
  obtain ⟨cl, Ar, S, -⟩ := A.cell
  intro t k
  refine X.arraylength hx (by rw [eT]; exact Ar.1) (State.isArrayOf_alike hZ.alike Ar.2.1) (g := mkF m pc Ls (.ref a :: rest)) rfl rfl hd _ ?_
  rw [S]; exact k
theorem VArr.ldI (A : VArr Z h a .int vs) (X : Stand p l e R s m args below meth c T locs cells slots) (hx : p.tables.exec = Jvm.exec) (hZ : Z.Warmed39 s.vm) (eT : T.heap = h) (hd : decode c.code pc = .ok (.iaload, 1)) (hi : j.toInt = i) (hv : vs[i]? = some v) :
    ∀ t, Steps p.tables e below (T.setTop (mkF m (pc + 1) Ls (v :: rest))) t → Steps p.tables e below (T.setTop (mkF m pc Ls (.int j :: .ref a :: rest))) t := by
  obtain ⟨cl, Ar, q, r⟩ := A.at hi hv
  exact fun t k => X.iaload hx (j := j) (v := v) (by rw [eT]; exact Ar.1) (State.isArrayOf_alike hZ.alike Ar.2.1) Ar.2.2 q r (g := mkF m pc Ls (.int j :: .ref a :: rest)) rfl rfl hd _ k
theorem VArr.ldJ (A : VArr Z h a .long vs) (X : Stand p l e R s m args below meth c T locs cells slots) (hx : p.tables.exec = Jvm.exec) (hZ : Z.Warmed39 s.vm) (eT : T.heap = h) (hd : decode c.code pc = .ok (.laload, 1)) (hi : j.toInt = i) (hv : vs[i]? = some v) :
    ∀ t, Steps p.tables e below (T.setTop (mkF m (pc + 1) Ls (v :: rest))) t → Steps p.tables e below (T.setTop (mkF m pc Ls (.int j :: .ref a :: rest))) t := by
  obtain ⟨cl, Ar, q, r⟩ := A.at hi hv
  exact fun t k => X.laload hx (j := j) (v := v) (by rw [eT]; exact Ar.1) (State.isArrayOf_alike hZ.alike Ar.2.1) Ar.2.2 q r (g := mkF m pc Ls (.int j :: .ref a :: rest)) rfl rfl hd _ k
theorem VArr.ldB (A : VArr Z h a .byte vs) (X : Stand p l e R s m args below meth c T locs cells slots) (hx : p.tables.exec = Jvm.exec) (hZ : Z.Warmed39 s.vm) (eT : T.heap = h) (hd : decode c.code pc = .ok (.baload, 1)) (hi : j.toInt = i) (hv : vs[i]? = some v) :
    ∀ t, Steps p.tables e below (T.setTop (mkF m (pc + 1) Ls (v :: rest))) t → Steps p.tables e below (T.setTop (mkF m pc Ls (.int j :: .ref a :: rest))) t := by
  obtain ⟨cl, Ar, q, r⟩ := A.at hi hv
  exact fun t k => X.baloadBytes hx (j := j) (v := v) (by rw [eT]; exact Ar.1) (State.isArrayOf_alike hZ.alike Ar.2.1) Ar.2.2 q r (g := mkF m pc Ls (.int j :: .ref a :: rest)) rfl rfl hd _ k
theorem VArr.fit (A : VArr Z h a ty vs) (hv : vs[i]? = some v) : fits ty v = true := by
  obtain ⟨q, k, cl, A, -, S, N, H, G⟩ := A
  obtain ⟨hl, e⟩ := List.getElem?_eq_some_iff.mp hv
  have := G i (by rw [S, n32c q]; exact hl)
  rw [List.getD_eq_getElem?_getD, hv] at this; exact this
theorem VArr.set (A : VArr Z h a ty vs) (hv : fits ty v = true) (W : Wr h h' a i v) (hl : i < vs.length) : VArr Z h' a ty (vs.set i v) := by
  obtain ⟨q, k, cl, A, q1, S, N, H, G⟩ := A
  have q' : (vs.set i v).length < 2147483648 := by rw [List.length_set]; exact q
  refine ⟨q', k, ?_⟩
  rw [List.length_set]
  exact Arv.set (j := i.toInt32) A q1 S N H G hv (by rw [n32c (by omega)]; exact W) i (n32c (by omega)) hl
theorem VArr.in_ (A : VArr Z h a ty vs) (hi : j.toInt = i) (hl : i < vs.length) : ∃ cl, Arr Z h a cl ty ∧ ¬ (j < 0 ∨ cl.slots.size ≤ j.toNatClampNeg) := by
  obtain ⟨cl, A, S, H⟩ := A.cell
  refine ⟨cl, A, fun q => ?_⟩
  rw [idxN hi, S] at q; exact q.elim (idx0 hi) (by omega)
theorem Go.stI (A : VArr Z h a .int vs) (X : Stand p l e R s m args below meth c T locs cells slots) (hx : p.tables.exec = Jvm.exec) (hZ : Z.Warmed39 s.vm) (eT : T.heap = h) (hd : decode c.code pc = .ok (.iastore, 1)) (hi : j.toInt = i) (hl : i < vs.length)
    (k : ∀ T' h', Stand p l e R s m args below meth c T' (locs ++ [⟨a, i⟩]) cells slots → T'.heap = h' → Wr h h' a i (.int x) → VArr Z h' a .int (vs.set i (.int x)) → GoG p e below F T' (mkF m (pc + 1) Ls rest)) :
    GoG p e below F T (mkF m pc Ls (.int x :: .int j :: .ref a :: rest)) := by
  obtain ⟨cl, Ar, q⟩ := A.in_ hi hl
  obtain ⟨T', h', X', e', W, st⟩ := Jvm.RoadKit.stI X hx hZ eT Ar (j := j) (x := x) q (g := mkF m pc Ls (.int x :: .int j :: .ref a :: rest)) rfl rfl hd
  rw [idxN hi] at X' W
  exact Go.back st (k T' h' X' e' W (A.set rfl W hl))
theorem Go.stJ {x : Int64} (A : VArr Z h a .long vs) (X : Stand p l e R s m args below meth c T locs cells slots) (hx : p.tables.exec = Jvm.exec) (hZ : Z.Warmed39 s.vm) (eT : T.heap = h) (hd : decode c.code pc = .ok (.lastore, 1)) (hi : j.toInt = i) (hl : i < vs.length)
    (k : ∀ T' h', Stand p l e R s m args below meth c T' (locs ++ [⟨a, i⟩]) cells slots → T'.heap = h' → Wr h h' a i (.long x) → VArr Z h' a .long (vs.set i (.long x)) → GoG p e below F T' (mkF m (pc + 1) Ls rest)) :
    GoG p e below F T (mkF m pc Ls (.long x :: .int j :: .ref a :: rest)) := by
  obtain ⟨cl, Ar, q⟩ := A.in_ hi hl
  obtain ⟨T', h', X', e', W, st⟩ := Jvm.RoadKit.stJ X hx hZ eT Ar (j := j) (x := x) q (g := mkF m pc Ls (.long x :: .int j :: .ref a :: rest)) rfl rfl hd
  rw [idxN hi] at X' W
  exact Go.back st (k T' h' X' e' W (A.set rfl W hl))
theorem Go.stB (A : VArr Z h a .byte vs) (X : Stand p l e R s m args below meth c T locs cells slots) (hx : p.tables.exec = Jvm.exec) (hZ : Z.Warmed39 s.vm) (eT : T.heap = h) (hd : decode c.code pc = .ok (.bastore, 1)) (hi : j.toInt = i) (hl : i < vs.length)
    (k : ∀ T' h', Stand p l e R s m args below meth c T' (locs ++ [⟨a, i⟩]) cells slots → T'.heap = h' → Wr h h' a i (.int (nar .byte x)) → VArr Z h' a .byte (vs.set i (.int (nar .byte x))) → GoG p e below F T' (mkF m (pc + 1) Ls rest)) :
    GoG p e below F T (mkF m pc Ls (.int x :: .int j :: .ref a :: rest)) := by
  obtain ⟨cl, Ar, q⟩ := A.in_ hi hl
  obtain ⟨T', h', X', e', W, st⟩ := Jvm.RoadKit.stB X hx hZ eT Ar (j := j) (x := x) q (g := mkF m pc Ls (.int x :: .int j :: .ref a :: rest)) rfl rfl hd
  rw [idxN hi] at X' W
  exact Go.back st (k T' h' X' e' W (A.set (fits_nar_byte x) W hl))
theorem VArr.new {k : ClassId} {n : Int32} (A : Arr Z h a (newA k ty n) ty) (hi : n.toInt = i) : VArr Z h a ty (List.replicate i (defaultValue ty)) := by
  have hl : i < 2147483648 := by have := n.toInt_lt; omega
  have e : i.toInt32 = n := Int32.toInt_inj.mp (by rw [n32 hl, hi])
  refine ⟨by simpa using hl, k, ?_⟩
  rw [List.length_replicate, e]
  exact (Arv.new A (idx0 hi)).pad fun q => by have := pad_rep [] (defaultValue ty) i q; simpa using this
theorem Go.newA {aty : ArrayType} {n : Int32} {cap : Nat} (X : Stand p l e R s m args below meth c T locs cells slots) (hx : p.tables.exec = Jvm.exec) (hZ : Z.Warmed39 s.vm) (w : (Jvm.Cond.arrayClass (newarray.typeOf aty)).before a0 Z = true) (eT : T.heap = h) (hd : decode c.code pc = .ok (.newarray aty, 2))
    (hi : n.toInt = i) (hcap : i ≤ cap) (hb : cap * 8 ≤ 536870912) (hc : cells + 1 ≤ R.cells) (hl : slots + cap ≤ R.slots)
    (k : ∀ T' h' a, a = h.size → Stand p l e R s m args below meth c T' locs (cells + 1) (slots + cap) → T'.heap = h' → Ext h h' → VArr Z h' a (newarray.typeOf aty) (List.replicate i (defaultValue (newarray.typeOf aty))) → GoG p e below F T' (mkF m (pc + 2) Ls (.ref a :: rest))) :
    GoG p e below F T (mkF m pc Ls (.int n :: rest)) := by
  obtain ⟨T', h', cA, X', e', E, A, st⟩ := newP X hx hZ w eT (g := mkF m pc Ls (.int n :: rest)) rfl hd rfl (idx0 hi) (cap := cap) (by rw [idxN hi]; exact hcap) hb hc hl
  exact Go.back st (k T' h' _ rfl X' e' E (VArr.new A hi))
theorem Go.newAE {aty : ArrayType} {n : Int32} {cap : Nat} {ad : String} (had : "[" ++ (newarray.typeOf aty).toString = ad) (X : Stand p l e R s m args below meth c T locs cells slots) (hx : p.tables.exec = Jvm.exec) (hZ : Z.Warmed39 s.vm) (w : (Jvm.Cond.arrayClass (newarray.typeOf aty)).before a0 Z = true) (eT : T.heap = h) (hd : decode c.code pc = .ok (.newarray aty, 2))
    (hi : n.toInt = i) (hcap : i ≤ cap) (hb : cap * 8 ≤ 536870912) (hc : cells + 1 ≤ R.cells) (hl : slots + cap ≤ R.slots)
    (k : ∀ T' h' a, a = h.size → Stand p l e R s m args below meth c T' locs (cells + 1) (slots + cap) → T'.heap = h' → Ext h h' → VArr Z h' a (newarray.typeOf aty) (List.replicate i (defaultValue (newarray.typeOf aty))) → Exa Z h' a ad → GoG p e below F T' (mkF m (pc + 2) Ls (.ref a :: rest))) :
    GoG p e below F T (mkF m pc Ls (.int n :: rest)) := by
  obtain ⟨T', h', cA, X', e', E, A, B, st⟩ := newPE X hx hZ w eT (g := mkF m pc Ls (.int n :: rest)) rfl hd rfl (idx0 hi) (cap := cap) (by rw [idxN hi]; exact hcap) hb hc hl had
  exact Go.back st (k T' h' _ rfl X' e' E (VArr.new A hi) B)
theorem stretch (vs : List Value) (dv : Value) (i n : Nat) (q : i + n ≤ vs.length) : (vs.drop i).take n = (List.range n).map fun z => vs.getD (i + z) dv := by
  apply List.ext_getElem
  · simp; omega
  · intro k h1 h2
    simp at h1 h2 ⊢
    rw [List.getElem?_eq_getElem (by omega)]; rfl
theorem Go.cpy {own : String} {index n0 n : Nat} {sp dp nn : Int32} {j' : Nat} (X : Stand p l e R s m args below meth c T locs cells slots) (hx : p.tables.exec = Jvm.exec) (hZ : Z.Warmed39 s.vm) (hown : s.vm.findClass own = some m.cls)
    (w1 : (Jvm.Cond.methodLink own index Jvm.Stand.acN).before a0 Z = true) (w2 : (Jvm.Cond.native Jvm.Stand.acN).before a0 Z = true) (w3 : (Jvm.Cond.static Jvm.Stand.acN).before a0 Z = true) (w4 : (Jvm.Cond.initialized "java/lang/System").before a0 Z = true) (eT : T.heap = h)
    (A : VArr Z h a ty vs) (B : VArr Z h b ty vd) (hty : refKind ty = false) (hi : sp.toInt = i) (hj : dp.toInt = j') (hn : nn.toInt = n) (b1 : i + n ≤ vs.length) (b2 : j' + n ≤ vd.length) (N : Fr n0 locs) (ge : n0 ≤ b)
    (hsz : Ls.size = c.maxLocals) (hd : decode c.code pc = .ok (.invokestatic index, 3)) (hf : 1 ≤ R.frames) {W : Nat} (hW : 2 * 0 + (rest.map fun v => v.category).sum ≤ W) (hlo : W + (nativeFrameWords "java/lang/System" "arraycopy" 5 + 11) ≤ R.locals)
    (k : ∀ T' h' L, Stand p l e R s m args below meth c T' L cells slots → T'.heap = h' → Fr n0 L → Keep h h' [b] → VArr Z h' b ty (vd.take j' ++ (vs.drop i).take n ++ vd.drop (j' + n)) → GoG p e below F T' (mkF m (pc + 3) Ls rest)) :
    GoG p e below F T (mkF m pc Ls (.int nn :: .int dp :: .ref b :: .int sp :: .ref a :: rest)) := by
  obtain ⟨q1, k1, A1⟩ := A
  obtain ⟨q2, k2, B1⟩ := B
  obtain ⟨T', h', L, X', e', N', K, V, st⟩ := cpA X hx hZ hown w1 w2 w3 w4 eT A1 B1 (us := (vs.drop i).take n) (Or.inl ⟨rfl, hty⟩) (sp := sp) (dp := dp) (nn := nn) (idx0 hi) (idx0 hj) (idx0 hn) (by rw [idxN hi, idxN hn, n32c q1]; exact b1) (by rw [idxN hj, idxN hn, n32c q2]; exact b2) (by rw [idxN hi, idxN hn]; exact stretch vs _ i n b1) (by rw [idxN hj, idxN hn]; exact b2) N ge (g := mkF m pc Ls (.int nn :: .int dp :: .ref b :: .int sp :: .ref a :: rest)) rfl hsz rfl hd hf (W := W) hW hlo
  rw [idxN hj, idxN hn] at V
  refine Go.back st (k T' h' L X' e' N' K ?_)
  have el : (vd.take j' ++ (vs.drop i).take n ++ vd.drop (j' + n)).length = vd.length := by simp; omega
  exact ⟨by rw [el]; exact q2, k2, by rw [el]; exact V⟩
end Arrays
end Jvm.OwnKit
namespace Jvm.OwnKit
open Sem ClassFile Op Lib Jvm.Stand Jvm.Free Jvm.LawKit Jvm.RoadKit
theorem VArr.ofArv {Z : State} {h : Heap} {a : Addr} {k : ClassId} {z : Int32} {vs : List Value} (A : Arv Z h a k .byte z vs (.int 0)) (hl : z.toNatClampNeg = vs.length) : VArr Z h a .byte vs := by
  have hz : ¬ z < 0 := by obtain ⟨c, -, -, -, q, -⟩ := A; exact q
  have q := back32 hz
  rw [hl] at q
  exact ⟨q.2, k, by rw [q.1]; exact A⟩
end Jvm.OwnKit
namespace Jvm.OwnKit
open Sem ClassFile Op Lib Jvm.Stand Jvm.Free Jvm.LawKit Jvm.RoadKit
section Change
variable {Z : State} {n0 : Nat} {h0 h h' : Heap} {ws ws' : List Addr} {L L' : List Loc} {a b : Addr} {sl : Nat} {v : Value}
/-- what a walk has changed since h0: cells at ws, and new ones; no place below n0 -/
def Chg (n0 : Nat) (h0 h : Heap) (ws : List Addr) (L : List Loc) : Prop := n0 ≤ h0.size ∧ Keep h0 h ws ∧ Fr n0 L
theorem Chg.refl (q : n0 ≤ h0.size) : Chg n0 h0 h0 ws [] := ⟨q, Keep.refl _ _, Fr.nil _⟩
theorem Chg.keep (C : Chg n0 h0 h ws L) : Keep h0 h ws := C.2.1
theorem Chg.fr (C : Chg n0 h0 h ws L) : Fr n0 L := C.2.2
theorem Chg.size (C : Chg n0 h0 h ws L) : n0 ≤ h.size := Nat.le_trans C.1 C.2.1.1
theorem Chg.grow (C : Chg n0 h0 h ws L) : h0.size ≤ h.size := C.2.1.1
theorem Chg.at (C : Chg n0 h0 h ws L) (q : a = h.size) : h0.size ≤ a := q ▸ C.grow
theorem Chg.ge (C : Chg n0 h0 h ws L) (q : h0.size ≤ a) : n0 ≤ a := Nat.le_trans C.1 q
theorem Chg.ext (C : Chg n0 h0 h ws L) (E : Ext h h') : Chg n0 h0 h' ws L := ⟨C.1, C.2.1.ext E, C.2.2⟩
theorem Chg.wr (C : Chg n0 h0 h ws L) (W : Wr h h' a sl v) (q : a ∈ ws ∨ h0.size ≤ a) (g : n0 ≤ a) : Chg n0 h0 h' ws (L ++ [⟨a, sl⟩]) := ⟨C.1, C.2.1.wr W q, C.2.2.app fun y hy => by cases List.mem_singleton.mp hy; exact g⟩
theorem Chg.wrN (C : Chg n0 h0 h ws L) (W : Wr h h' a sl v) (q : a ∈ ws ∨ h0.size ≤ a) (N : Fr n0 L') : Chg n0 h0 h' ws (L ++ L') := ⟨C.1, C.2.1.wr W q, C.2.2.app N⟩
theorem Chg.call (C : Chg n0 h0 h ws L) (C' : Chg n0 h h' ws' L') (q : ∀ x ∈ ws', x ∈ ws ∨ h0.size ≤ x) : Chg n0 h0 h' ws (L ++ L') := ⟨C.1, C.2.1.trans C'.2.1 q, C.2.2.app C'.2.2⟩
theorem Chg.cpy (C : Chg n0 h0 h ws L) (K : Keep h h' [b]) (N : Fr n0 L') (q : b ∈ ws ∨ h0.size ≤ b) : Chg n0 h0 h' ws L' := ⟨C.1, C.2.1.trans K (allS q all0), N⟩
theorem Chg.pure (C : Chg n0 h0 h ws L) (N : Fr n0 L') (e : h' = h) : Chg n0 h0 h' ws (L ++ L') := by subst e; exact ⟨C.1, C.2.1, C.2.2.app N⟩
theorem Chg.sub (C : Chg n0 h0 h ws L) (q : ∀ x ∈ ws, x ∈ ws') : Chg n0 h0 h ws' L := ⟨C.1, (Keep.refl h0 ws').trans C.2.1 (fun x hx => Or.inl (q x hx)), C.2.2⟩
theorem lt_ne {F : Nat} (q : b = F) (r : a < F) : a ≠ b := Nat.ne_of_lt (q ▸ r)
theorem Chg.base (C : Chg n0 h0 h ws L) : Chg n0 h h ws' L := ⟨C.size, Keep.refl _ _, C.fr⟩
/-- no class's statics lie at x -/
def NS (h : Heap) (x : Addr) : Prop := ∀ cl : Cell, h[x]? = some cl → cl.vm.isStatics = false
theorem own_exaNS {K : String} (E : Exa Z h a K) : NS h a := fun cl q => by obtain ⟨c, k, h1, -, -, h4, -⟩ := E; cases h1.symm.trans q; exact h4
theorem own_ns0 : ∀ x ∈ ([] : List Addr), NS h x := fun _ q => by cases q
theorem own_nsS (q : NS h a) (r : ∀ x ∈ ws, NS h x) : ∀ x ∈ a :: ws, NS h x := fun x hx => by
  rcases List.mem_cons.mp hx with rfl | q'
  · exact q
  · exact r x q'
theorem staKeep {K n d : String} (S : Sta Z h K n d v) (k : Keep h h' ws) (q : ∀ x ∈ ws, NS h x) : Sta Z h' K n d v := by
  obtain ⟨cf, i, kk, f, st, cell, h1, h2, h3, h4, h5, h6, h7⟩ := S
  exact ⟨cf, i, kk, f, st, cell, h1, h2, h3, h4, k.2.1 _ _ h5 (fun hm => by have := q _ hm _ h5; rw [h6] at this; cases this), h6, h7⟩
end Change
end Jvm.OwnKit
namespace Jvm.Pilot.@@N@@
open Jvm Jvm.ClassFile Sem Op Lib Jvm.Free Jvm.Stand Jvm.LawKit Jvm.RoadKit Bundle Jvm.OwnKit Jvm.Pilot.@@N@@.Jvm.D
theorem d1_0 : decode prog_3_method_1_code 0 = .ok (.aload_n 0, 1) := by decide +kernel
theorem d1_1 : decode prog_3_method_1_code 1 = .ok (.invokespecial 1, 3) := by decide +kernel
theorem d1_4 : decode prog_3_method_1_code 4 = .ok (.aload_n 0, 1) := by decide +kernel
theorem d1_5 : decode prog_3_method_1_code 5 = .ok (.iload_n 1, 1) := by decide +kernel
theorem d1_6 : decode prog_3_method_1_code 6 = .ok (.newarray .byte, 2) := by decide +kernel
theorem d1_8 : decode prog_3_method_1_code 8 = .ok (.putfield 7, 3) := by decide +kernel
theorem d1_11 : decode prog_3_method_1_code 11 = .ok (.return_, 1) := by decide +kernel
theorem d3_0 : decode prog_3_method_2_code 0 = .ok (.aload_n 0, 1) := by decide +kernel
theorem d3_1 : decode prog_3_method_2_code 1 = .ok (.getfield 13, 3) := by decide +kernel
theorem d3_4 : decode prog_3_method_2_code 4 = .ok (.aload_n 0, 1) := by decide +kernel
theorem d3_5 : decode prog_3_method_2_code 5 = .ok (.getfield 7, 3) := by decide +kernel
theorem d3_8 : decode prog_3_method_2_code 8 = .ok (.arraylength, 1) := by decide +kernel
theorem d3_9 : decode prog_3_method_2_code 9 = .ok (.i2l, 1) := by decide +kernel
theorem d3_10 : decode prog_3_method_2_code 10 = .ok (.lrem, 1) := by decide +kernel
theorem d3_11 : decode prog_3_method_2_code 11 = .ok (.l2i, 1) := by decide +kernel
theorem d3_12 : decode prog_3_method_2_code 12 = .ok (.istore 4, 2) := by decide +kernel
theorem d3_14 : decode prog_3_method_2_code 14 = .ok (.iload_n 3, 1) := by decide +kernel
theorem d3_15 : decode prog_3_method_2_code 15 = .ok (.istore 5, 2) := by decide +kernel
theorem d3_17 : decode prog_3_method_2_code 17 = .ok (.iload_n 2, 1) := by decide +kernel
theorem d3_18 : decode prog_3_method_2_code 18 = .ok (.istore 6, 2) := by decide +kernel
theorem d3_20 : decode prog_3_method_2_code 20 = .ok (.iload 5, 2) := by decide +kernel
theorem d3_22 : decode prog_3_method_2_code 22 = .ok (.ifCond .le 62, 3) := by decide +kernel
theorem d3_25 : decode prog_3_method_2_code 25 = .ok (.iload 5, 2) := by decide +kernel
theorem d3_27 : decode prog_3_method_2_code 27 = .ok (.aload_n 0, 1) := by decide +kernel
theorem d3_28 : decode prog_3_method_2_code 28 = .ok (.getfield 7, 3) := by decide +kernel
theorem d3_31 : decode prog_3_method_2_code 31 = .ok (.arraylength, 1) := by decide +kernel
theorem d3_32 : decode prog_3_method_2_code 32 = .ok (.iload 4, 2) := by decide +kernel
theorem d3_34 : decode prog_3_method_2_code 34 = .ok (.isub, 1) := by decide +kernel
theorem d3_35 : decode prog_3_method_2_code 35 = .ok (.invokestatic 17, 3) := by decide +kernel
theorem d3_38 : decode prog_3_method_2_code 38 = .ok (.istore 7, 2) := by decide +kernel
theorem d3_40 : decode prog_3_method_2_code 40 = .ok (.aload_n 1, 1) := by decide +kernel
theorem d3_41 : decode prog_3_method_2_code 41 = .ok (.iload 6, 2) := by decide +kernel
theorem d3_43 : decode prog_3_method_2_code 43 = .ok (.aload_n 0, 1) := by decide +kernel
theorem d3_44 : decode prog_3_method_2_code 44 = .ok (.getfield 7, 3) := by decide +kernel
theorem d3_47 : decode prog_3_method_2_code 47 = .ok (.iload 4, 2) := by decide +kernel
theorem d3_49 : decode prog_3_method_2_code 49 = .ok (.iload 7, 2) := by decide +kernel
theorem d3_51 : decode prog_3_method_2_code 51 = .ok (.invokestatic 23, 3) := by decide +kernel
theorem d3_54 : decode prog_3_method_2_code 54 = .ok (.iload 6, 2) := by decide +kernel
theorem d3_56 : decode prog_3_method_2_code 56 = .ok (.iload 7, 2) := by decide +kernel
theorem d3_58 : decode prog_3_method_2_code 58 = .ok (.iadd, 1) := by decide +kernel
theorem d3_59 : decode prog_3_method_2_code 59 = .ok (.istore 6, 2) := by decide +kernel
theorem d3_61 : decode prog_3_method_2_code 61 = .ok (.iload 5, 2) := by decide +kernel
theorem d3_63 : decode prog_3_method_2_code 63 = .ok (.iload 7, 2) := by decide +kernel
theorem d3_65 : decode prog_3_method_2_code 65 = .ok (.isub, 1) := by decide +kernel
theorem d3_66 : decode prog_3_method_2_code 66 = .ok (.istore 5, 2) := by decide +kernel
theorem d3_68 : decode prog_3_method_2_code 68 = .ok (.iload 4, 2) := by decide +kernel
theorem d3_70 : decode prog_3_method_2_code 70 = .ok (.iload 7, 2) := by decide +kernel
theorem d3_72 : decode prog_3_method_2_code 72 = .ok (.iadd, 1) := by decide +kernel
theorem d3_73 : decode prog_3_method_2_code 73 = .ok (.aload_n 0, 1) := by decide +kernel
theorem d3_74 : decode prog_3_method_2_code 74 = .ok (.getfield 7, 3) := by decide +kernel
theorem d3_77 : decode prog_3_method_2_code 77 = .ok (.arraylength, 1) := by decide +kernel
theorem d3_78 : decode prog_3_method_2_code 78 = .ok (.irem, 1) := by decide +kernel
theorem d3_79 : decode prog_3_method_2_code 79 = .ok (.istore 4, 2) := by decide +kernel
theorem d3_81 : decode prog_3_method_2_code 81 = .ok (.goto (-61), 3) := by decide +kernel
theorem d3_84 : decode prog_3_method_2_code 84 = .ok (.aload_n 0, 1) := by decide +kernel
theorem d3_85 : decode prog_3_method_2_code 85 = .ok (.dup, 1) := by decide +kernel
theorem d3_86 : decode prog_3_method_2_code 86 = .ok (.getfield 13, 3) := by decide +kernel
theorem d3_89 : decode prog_3_method_2_code 89 = .ok (.iload_n 3, 1) := by decide +kernel
theorem d3_90 : decode prog_3_method_2_code 90 = .ok (.i2l, 1) := by decide +kernel
theorem d3_91 : decode prog_3_method_2_code 91 = .ok (.ladd, 1) := by decide +kernel
theorem d3_92 : decode prog_3_method_2_code 92 = .ok (.putfield 13, 3) := by decide +kernel
theorem d3_95 : decode prog_3_method_2_code 95 = .ok (.return_, 1) := by decide +kernel
theorem d4_0 : decode prog_3_method_3_code 0 = .ok (.aload_n 0, 1) := by decide +kernel
theorem d4_1 : decode prog_3_method_3_code 1 = .ok (.getfield 13, 3) := by decide +kernel
theorem d4_4 : decode prog_3_method_3_code 4 = .ok (.aload_n 0, 1) := by decide +kernel
theorem d4_5 : decode prog_3_method_3_code 5 = .ok (.getfield 7, 3) := by decide +kernel
theorem d4_8 : decode prog_3_method_3_code 8 = .ok (.arraylength, 1) := by decide +kernel
theorem d4_9 : decode prog_3_method_3_code 9 = .ok (.i2l, 1) := by decide +kernel
theorem d4_10 : decode prog_3_method_3_code 10 = .ok (.invokestatic 29, 3) := by decide +kernel
theorem d4_13 : decode prog_3_method_3_code 13 = .ok (.l2i, 1) := by decide +kernel
theorem d4_14 : decode prog_3_method_3_code 14 = .ok (.istore_n 1, 1) := by decide +kernel
theorem d4_15 : decode prog_3_method_3_code 15 = .ok (.aload_n 0, 1) := by decide +kernel
theorem d4_16 : decode prog_3_method_3_code 16 = .ok (.getfield 13, 3) := by decide +kernel
theorem d4_19 : decode prog_3_method_3_code 19 = .ok (.iload_n 1, 1) := by decide +kernel
theorem d4_20 : decode prog_3_method_3_code 20 = .ok (.i2l, 1) := by decide +kernel
theorem d4_21 : decode prog_3_method_3_code 21 = .ok (.lsub, 1) := by decide +kernel
theorem d4_22 : decode prog_3_method_3_code 22 = .ok (.aload_n 0, 1) := by decide +kernel
theorem d4_23 : decode prog_3_method_3_code 23 = .ok (.getfield 7, 3) := by decide +kernel
theorem d4_26 : decode prog_3_method_3_code 26 = .ok (.arraylength, 1) := by decide +kernel
theorem d4_27 : decode prog_3_method_3_code 27 = .ok (.i2l, 1) := by decide +kernel
theorem d4_28 : decode prog_3_method_3_code 28 = .ok (.lrem, 1) := by decide +kernel
theorem d4_29 : decode prog_3_method_3_code 29 = .ok (.l2i, 1) := by decide +kernel
theorem d4_30 : decode prog_3_method_3_code 30 = .ok (.istore_n 2, 1) := by decide +kernel
theorem d4_31 : decode prog_3_method_3_code 31 = .ok (.iload_n 1, 1) := by decide +kernel
theorem d4_32 : decode prog_3_method_3_code 32 = .ok (.newarray .byte, 2) := by decide +kernel
theorem d4_34 : decode prog_3_method_3_code 34 = .ok (.astore_n 3, 1) := by decide +kernel
theorem d4_35 : decode prog_3_method_3_code 35 = .ok (.iload_n 1, 1) := by decide +kernel
theorem d4_36 : decode prog_3_method_3_code 36 = .ok (.aload_n 0, 1) := by decide +kernel
theorem d4_37 : decode prog_3_method_3_code 37 = .ok (.getfield 7, 3) := by decide +kernel
theorem d4_40 : decode prog_3_method_3_code 40 = .ok (.arraylength, 1) := by decide +kernel
theorem d4_41 : decode prog_3_method_3_code 41 = .ok (.iload_n 2, 1) := by decide +kernel
theorem d4_42 : decode prog_3_method_3_code 42 = .ok (.isub, 1) := by decide +kernel
theorem d4_43 : decode prog_3_method_3_code 43 = .ok (.invokestatic 17, 3) := by decide +kernel
theorem d4_46 : decode prog_3_method_3_code 46 = .ok (.istore 4, 2) := by decide +kernel
theorem d4_48 : decode prog_3_method_3_code 48 = .ok (.aload_n 0, 1) := by decide +kernel
theorem d4_49 : decode prog_3_method_3_code 49 = .ok (.getfield 7, 3) := by decide +kernel
theorem d4_52 : decode prog_3_method_3_code 52 = .ok (.iload_n 2, 1) := by decide +kernel
theorem d4_53 : decode prog_3_method_3_code 53 = .ok (.aload_n 3, 1) := by decide +kernel
theorem d4_54 : decode prog_3_method_3_code 54 = .ok (.iconst 0, 1) := by decide +kernel
theorem d4_55 : decode prog_3_method_3_code 55 = .ok (.iload 4, 2) := by decide +kernel
theorem d4_57 : decode prog_3_method_3_code 57 = .ok (.invokestatic 23, 3) := by decide +kernel
theorem d4_60 : decode prog_3_method_3_code 60 = .ok (.aload_n 0, 1) := by decide +kernel
theorem d4_61 : decode prog_3_method_3_code 61 = .ok (.getfield 7, 3) := by decide +kernel
theorem d4_64 : decode prog_3_method_3_code 64 = .ok (.iconst 0, 1) := by decide +kernel
theorem d4_65 : decode prog_3_method_3_code 65 = .ok (.aload_n 3, 1) := by decide +kernel
theorem d4_66 : decode prog_3_method_3_code 66 = .ok (.iload 4, 2) := by decide +kernel
theorem d4_68 : decode prog_3_method_3_code 68 = .ok (.iload_n 1, 1) := by decide +kernel
theorem d4_69 : decode prog_3_method_3_code 69 = .ok (.iload 4, 2) := by decide +kernel
theorem d4_71 : decode prog_3_method_3_code 71 = .ok (.isub, 1) := by decide +kernel
theorem d4_72 : decode prog_3_method_3_code 72 = .ok (.invokestatic 23, 3) := by decide +kernel
theorem d4_75 : decode prog_3_method_3_code 75 = .ok (.aload_n 3, 1) := by decide +kernel
theorem d4_76 : decode prog_3_method_3_code 76 = .ok (.areturn, 1) := by decide +kernel
theorem d5_0 : decode jdk_29_method_70_code 0 = .ok (.lload_n 0, 1) := by decide +kernel
theorem d5_1 : decode jdk_29_method_70_code 1 = .ok (.lload_n 2, 1) := by decide +kernel
theorem d5_2 : decode jdk_29_method_70_code 2 = .ok (.lcmp, 1) := by decide +kernel
theorem d5_3 : decode jdk_29_method_70_code 3 = .ok (.ifCond .gt 7, 3) := by decide +kernel
theorem d5_6 : decode jdk_29_method_70_code 6 = .ok (.lload_n 0, 1) := by decide +kernel
theorem d5_7 : decode jdk_29_method_70_code 7 = .ok (.goto 4, 3) := by decide +kernel
theorem d5_10 : decode jdk_29_method_70_code 10 = .ok (.lload_n 2, 1) := by decide +kernel
theorem d5_11 : decode jdk_29_method_70_code 11 = .ok (.lreturn, 1) := by decide +kernel
theorem d6_0 : decode jdk_29_method_69_code 0 = .ok (.iload_n 0, 1) := by decide +kernel
theorem d6_1 : decode jdk_29_method_69_code 1 = .ok (.iload_n 1, 1) := by decide +kernel
theorem d6_2 : decode jdk_29_method_69_code 2 = .ok (.if_icmp .gt 7, 3) := by decide +kernel
theorem d6_5 : decode jdk_29_method_69_code 5 = .ok (.iload_n 0, 1) := by decide +kernel
theorem d6_6 : decode jdk_29_method_69_code 6 = .ok (.goto 4, 3) := by decide +kernel
theorem d6_9 : decode jdk_29_method_69_code 9 = .ok (.iload_n 1, 1) := by decide +kernel
theorem d6_10 : decode jdk_29_method_69_code 10 = .ok (.ireturn, 1) := by decide +kernel
theorem d7_0 : decode method_3_code 0 = .ok (.iload_n 3, 1) := by decide +kernel
theorem d7_1 : decode method_3_code 1 = .ok (.iload_n 1, 1) := by decide +kernel
theorem d7_2 : decode method_3_code 2 = .ok (.invokestatic 27, 3) := by decide +kernel
theorem d7_5 : decode method_3_code 5 = .ok (.istore 10, 2) := by decide +kernel
theorem d7_7 : decode method_3_code 7 = .ok (.aload_n 0, 1) := by decide +kernel
theorem d7_8 : decode method_3_code 8 = .ok (.arraylength, 1) := by decide +kernel
theorem d7_9 : decode method_3_code 9 = .ok (.iload 10, 2) := by decide +kernel
theorem d7_11 : decode method_3_code 11 = .ok (.if_icmp .eq 5, 3) := by decide +kernel
theorem d7_14 : decode method_3_code 14 = .ok (.iconst 0, 1) := by decide +kernel
theorem d7_15 : decode method_3_code 15 = .ok (.ireturn, 1) := by decide +kernel
theorem d7_16 : decode method_3_code 16 = .ok (.aload_n 0, 1) := by decide +kernel
theorem d7_17 : decode method_3_code 17 = .ok (.iconst 0, 1) := by decide +kernel
theorem d7_18 : decode method_3_code 18 = .ok (.iload 10, 2) := by decide +kernel
theorem d7_20 : decode method_3_code 20 = .ok (.iload_n 3, 1) := by decide +kernel
theorem d7_21 : decode method_3_code 21 = .ok (.aload_n 2, 1) := by decide +kernel
theorem d7_22 : decode method_3_code 22 = .ok (.iload 4, 2) := by decide +kernel
theorem d7_24 : decode method_3_code 24 = .ok (.iload 5, 2) := by decide +kernel
theorem d7_26 : decode method_3_code 26 = .ok (.iload 6, 2) := by decide +kernel
theorem d7_28 : decode method_3_code 28 = .ok (.iload 7, 2) := by decide +kernel
theorem d7_30 : decode method_3_code 30 = .ok (.iload 8, 2) := by decide +kernel
theorem d7_32 : decode method_3_code 32 = .ok (.invokestatic 33, 3) := by decide +kernel
theorem d7_35 : decode method_3_code 35 = .ok (.ifCond .eq 73, 3) := by decide +kernel
theorem d7_38 : decode method_3_code 38 = .ok (.aload_n 0, 1) := by decide +kernel
theorem d7_39 : decode method_3_code 39 = .ok (.iconst 1, 1) := by decide +kernel
theorem d7_40 : decode method_3_code 40 = .ok (.iload 10, 2) := by decide +kernel
theorem d7_42 : decode method_3_code 42 = .ok (.iload_n 3, 1) := by decide +kernel
theorem d7_43 : decode method_3_code 43 = .ok (.aload_n 2, 1) := by decide +kernel
theorem d7_44 : decode method_3_code 44 = .ok (.iload 4, 2) := by decide +kernel
theorem d7_46 : decode method_3_code 46 = .ok (.iload 5, 2) := by decide +kernel
theorem d7_48 : decode method_3_code 48 = .ok (.iload 6, 2) := by decide +kernel
theorem d7_50 : decode method_3_code 50 = .ok (.iload 7, 2) := by decide +kernel
theorem d7_52 : decode method_3_code 52 = .ok (.iload 8, 2) := by decide +kernel
theorem d7_54 : decode method_3_code 54 = .ok (.invokestatic 33, 3) := by decide +kernel
theorem d7_57 : decode method_3_code 57 = .ok (.ifCond .eq 51, 3) := by decide +kernel
theorem d7_60 : decode method_3_code 60 = .ok (.aload_n 0, 1) := by decide +kernel
theorem d7_61 : decode method_3_code 61 = .ok (.iconst 2, 1) := by decide +kernel
theorem d7_62 : decode method_3_code 62 = .ok (.iload 10, 2) := by decide +kernel
theorem d7_64 : decode method_3_code 64 = .ok (.iload_n 3, 1) := by decide +kernel
theorem d7_65 : decode method_3_code 65 = .ok (.aload_n 2, 1) := by decide +kernel
theorem d7_66 : decode method_3_code 66 = .ok (.iload 4, 2) := by decide +kernel
theorem d7_68 : decode method_3_code 68 = .ok (.iload 5, 2) := by decide +kernel
theorem d7_70 : decode method_3_code 70 = .ok (.iload 6, 2) := by decide +kernel
theorem d7_72 : decode method_3_code 72 = .ok (.iload 7, 2) := by decide +kernel
theorem d7_74 : decode method_3_code 74 = .ok (.iload 8, 2) := by decide +kernel
theorem d7_76 : decode method_3_code 76 = .ok (.invokestatic 33, 3) := by decide +kernel
theorem d7_79 : decode method_3_code 79 = .ok (.ifCond .eq 29, 3) := by decide +kernel
theorem d7_82 : decode method_3_code 82 = .ok (.aload_n 0, 1) := by decide +kernel
theorem d7_83 : decode method_3_code 83 = .ok (.iconst 3, 1) := by decide +kernel
theorem d7_84 : decode method_3_code 84 = .ok (.iload 10, 2) := by decide +kernel
theorem d7_86 : decode method_3_code 86 = .ok (.iload_n 3, 1) := by decide +kernel
theorem d7_87 : decode method_3_code 87 = .ok (.aload_n 2, 1) := by decide +kernel
theorem d7_88 : decode method_3_code 88 = .ok (.iload 4, 2) := by decide +kernel
theorem d7_90 : decode method_3_code 90 = .ok (.iload 5, 2) := by decide +kernel
theorem d7_92 : decode method_3_code 92 = .ok (.iload 6, 2) := by decide +kernel
theorem d7_94 : decode method_3_code 94 = .ok (.iload 7, 2) := by decide +kernel
theorem d7_96 : decode method_3_code 96 = .ok (.iload 8, 2) := by decide +kernel
theorem d7_98 : decode method_3_code 98 = .ok (.invokestatic 33, 3) := by decide +kernel
theorem d7_101 : decode method_3_code 101 = .ok (.ifCond .eq 7, 3) := by decide +kernel
theorem d7_104 : decode method_3_code 104 = .ok (.iconst 1, 1) := by decide +kernel
theorem d7_105 : decode method_3_code 105 = .ok (.goto 4, 3) := by decide +kernel
theorem d7_108 : decode method_3_code 108 = .ok (.iconst 0, 1) := by decide +kernel
theorem d7_109 : decode method_3_code 109 = .ok (.ireturn, 1) := by decide +kernel
theorem d8_0 : decode method_4_code 0 = .ok (.iload_n 1, 1) := by decide +kernel
theorem d8_1 : decode method_4_code 1 = .ok (.iload_n 2, 1) := by decide +kernel
theorem d8_2 : decode method_4_code 2 = .ok (.if_icmp .lt 5, 3) := by decide +kernel
theorem d8_5 : decode method_4_code 5 = .ok (.iconst 1, 1) := by decide +kernel
theorem d8_6 : decode method_4_code 6 = .ok (.ireturn, 1) := by decide +kernel
theorem d8_7 : decode method_4_code 7 = .ok (.aload_n 0, 1) := by decide +kernel
theorem d8_8 : decode method_4_code 8 = .ok (.iload_n 1, 1) := by decide +kernel
theorem d8_9 : decode method_4_code 9 = .ok (.baload, 1) := by decide +kernel
theorem d8_10 : decode method_4_code 10 = .ok (.aload 4, 2) := by decide +kernel
theorem d8_12 : decode method_4_code 12 = .ok (.iload_n 3, 1) := by decide +kernel
theorem d8_13 : decode method_4_code 13 = .ok (.iload_n 2, 1) := by decide +kernel
theorem d8_14 : decode method_4_code 14 = .ok (.isub, 1) := by decide +kernel
theorem d8_15 : decode method_4_code 15 = .ok (.iload_n 1, 1) := by decide +kernel
theorem d8_16 : decode method_4_code 16 = .ok (.iadd, 1) := by decide +kernel
theorem d8_17 : decode method_4_code 17 = .ok (.iload 5, 2) := by decide +kernel
theorem d8_19 : decode method_4_code 19 = .ok (.iload 6, 2) := by decide +kernel
theorem d8_21 : decode method_4_code 21 = .ok (.iload 7, 2) := by decide +kernel
theorem d8_23 : decode method_4_code 23 = .ok (.iload 8, 2) := by decide +kernel
theorem d8_25 : decode method_4_code 25 = .ok (.iload 9, 2) := by decide +kernel
theorem d8_27 : decode method_4_code 27 = .ok (.invokestatic 37, 3) := by decide +kernel
theorem d8_30 : decode method_4_code 30 = .ok (.if_icmp .ne 7, 3) := by decide +kernel
theorem d8_33 : decode method_4_code 33 = .ok (.iconst 1, 1) := by decide +kernel
theorem d8_34 : decode method_4_code 34 = .ok (.goto 4, 3) := by decide +kernel
theorem d8_37 : decode method_4_code 37 = .ok (.iconst 0, 1) := by decide +kernel
theorem d8_38 : decode method_4_code 38 = .ok (.ireturn, 1) := by decide +kernel
theorem d9_0 : decode method_5_code 0 = .ok (.iload_n 1, 1) := by decide +kernel
theorem d9_1 : decode method_5_code 1 = .ok (.iload_n 3, 1) := by decide +kernel
theorem d9_2 : decode method_5_code 2 = .ok (.if_icmp .ge 9, 3) := by decide +kernel
theorem d9_5 : decode method_5_code 5 = .ok (.aload_n 0, 1) := by decide +kernel
theorem d9_6 : decode method_5_code 6 = .ok (.iload_n 2, 1) := by decide +kernel
theorem d9_7 : decode method_5_code 7 = .ok (.iload_n 1, 1) := by decide +kernel
theorem d9_8 : decode method_5_code 8 = .ok (.iadd, 1) := by decide +kernel
theorem d9_9 : decode method_5_code 9 = .ok (.baload, 1) := by decide +kernel
theorem d9_10 : decode method_5_code 10 = .ok (.ireturn, 1) := by decide +kernel
theorem d9_11 : decode method_5_code 11 = .ok (.iload_n 1, 1) := by decide +kernel
theorem d9_12 : decode method_5_code 12 = .ok (.iload_n 3, 1) := by decide +kernel
theorem d9_13 : decode method_5_code 13 = .ok (.isub, 1) := by decide +kernel
theorem d9_14 : decode method_5_code 14 = .ok (.istore 7, 2) := by decide +kernel
theorem d9_16 : decode method_5_code 16 = .ok (.iload 7, 2) := by decide +kernel
theorem d9_18 : decode method_5_code 18 = .ok (.iload 5, 2) := by decide +kernel
theorem d9_20 : decode method_5_code 20 = .ok (.if_icmp .ge 11, 3) := by decide +kernel
theorem d9_23 : decode method_5_code 23 = .ok (.aload_n 0, 1) := by decide +kernel
theorem d9_24 : decode method_5_code 24 = .ok (.iload 4, 2) := by decide +kernel
theorem d9_26 : decode method_5_code 26 = .ok (.iload 7, 2) := by decide +kernel
theorem d9_28 : decode method_5_code 28 = .ok (.iadd, 1) := by decide +kernel
theorem d9_29 : decode method_5_code 29 = .ok (.baload, 1) := by decide +kernel
theorem d9_30 : decode method_5_code 30 = .ok (.ireturn, 1) := by decide +kernel
theorem d9_31 : decode method_5_code 31 = .ok (.aload_n 0, 1) := by decide +kernel
theorem d9_32 : decode method_5_code 32 = .ok (.iload 6, 2) := by decide +kernel
theorem d9_34 : decode method_5_code 34 = .ok (.iload 7, 2) := by decide +kernel
theorem d9_36 : decode method_5_code 36 = .ok (.iadd, 1) := by decide +kernel
theorem d9_37 : decode method_5_code 37 = .ok (.iload 5, 2) := by decide +kernel
theorem d9_39 : decode method_5_code 39 = .ok (.isub, 1) := by decide +kernel
theorem d9_40 : decode method_5_code 40 = .ok (.baload, 1) := by decide +kernel
theorem d9_41 : decode method_5_code 41 = .ok (.ireturn, 1) := by decide +kernel
theorem pd_0 : parseMethodDescriptor "(II)I" = some ⟨[.int, .int], some .int⟩ := by decide +kernel
theorem pd_1 : parseMethodDescriptor "(JJ)J" = some ⟨[.long, .long], some .long⟩ := by decide +kernel
theorem pd_2 : parseMethodDescriptor "([BIIIIII)B" = some ⟨[(.array .byte), .int, .int, .int, .int, .int, .int], some .byte⟩ := by decide +kernel
theorem pd_3 : parseMethodDescriptor "([BIII[BIIIII)Z" = some ⟨[(.array .byte), .int, .int, .int, (.array .byte), .int, .int, .int, .int, .int], some .boolean⟩ := by decide +kernel
theorem pd_4 : parseMethodDescriptor "(I)V" = some ⟨[.int], none⟩ := by decide +kernel
theorem pd_5 : parseMethodDescriptor "([BII)V" = some ⟨[(.array .byte), .int, .int], none⟩ := by decide +kernel
theorem pd_6 : parseMethodDescriptor "()[B" = some ⟨[], some (.array .byte)⟩ := by decide +kernel
theorem pd_7 : parseMethodDescriptor "([BI[BIIIIIII)Z" = some ⟨[(.array .byte), .int, (.array .byte), .int, .int, .int, .int, .int, .int, .int], some .boolean⟩ := by decide +kernel

/-- the ring holds the last bytes of the stream -/
def RI (rs ss : List Int32) : Prop := ∀ k, k < ss.length → ss.length ≤ k + rs.length → rs[k % rs.length]? = ss[k]?
theorem mod_off {W c e : Nat} (h : W % c + e < c) : (W + e) % c = W % c + e := by
  rw [← Nat.mod_add_mod]; exact Nat.mod_eq_of_lt h
theorem mod_ne {W c k e : Nat} (h1 : k < W + e) (h2 : W + e < k + c) (h3 : W % c + e < c) : k % c ≠ W % c + e := fun q => by
  have a := Nat.div_add_mod W c
  have b := Nat.div_add_mod k c
  by_cases r : W / c ≤ k / c
  · have := Nat.mul_le_mul_left c r; omega
  · have : c * (k / c + 1) ≤ c * (W / c) := Nat.mul_le_mul_left c (by omega)
    rw [Nat.mul_add, Nat.mul_one] at this; omega
theorem RI.step {rs ss ch : List Int32} (H : RI rs ss) (c1 : 0 < rs.length) {p : Nat} (hp : p = ss.length % rs.length) (hl : p + ch.length ≤ rs.length) : RI (rs.take p ++ ch ++ rs.drop (p + ch.length)) (ss ++ ch) := by
  have el : (rs.take p ++ ch ++ rs.drop (p + ch.length)).length = rs.length := by simp; omega
  have tl : (rs.take p).length = p := by simp; omega
  intro k h1 h2
  rw [el] at h2 ⊢
  rw [List.length_append] at h1 h2
  by_cases hk : k < ss.length
  · rw [List.getElem?_append_left hk, ← H k hk (by omega)]
    have hq := Nat.mod_lt k c1
    by_cases h3 : k % rs.length < p
    · rw [List.append_assoc, List.getElem?_append_left (by omega), List.getElem?_take_of_lt h3]
    · by_cases h4 : k % rs.length < p + ch.length
      · exfalso
        have := mod_ne (W := ss.length) (c := rs.length) (k := k) (e := k % rs.length - p) (by omega) (by omega) (by omega)
        omega
      · rw [List.getElem?_append_right (by rw [List.length_append]; omega), List.length_append, tl, List.getElem?_drop]
        congr 1; omega
  · obtain ⟨e, rfl⟩ : ∃ e, k = ss.length + e := ⟨k - ss.length, by omega⟩
    rw [mod_off (by omega), List.getElem?_append_left (by rw [List.length_append]; omega), List.getElem?_append_right (by omega), List.getElem?_append_right (by omega), tl]
    congr 1; omega
theorem RI.out {rs ss : List Int32} (H : RI rs ss) (c1 : 0 < rs.length) {z st fi : Nat} (hz : z = min ss.length rs.length) (hs : st = (ss.length - z) % rs.length) (hf : fi = min z (rs.length - st)) : (rs.drop st).take fi ++ rs.take (z - fi) = ss.drop (ss.length - z) := by
  have hst : st < rs.length := by rw [hs]; exact Nat.mod_lt _ c1
  apply List.ext_getElem?
  intro j
  have l1 : ((rs.drop st).take fi).length = fi := by simp; omega
  by_cases hj : j < z
  · rw [List.getElem?_drop]
    have q := H (ss.length - z + j) (by omega) (by omega)
    by_cases h1 : j < fi
    · rw [List.getElem?_append_left (by omega), List.getElem?_take_of_lt h1, List.getElem?_drop, ← q, mod_off (by omega), hs]
    · rw [List.getElem?_append_right (by omega), l1, List.getElem?_take_of_lt (by omega), ← q]
      have e : (ss.length - z + j) % rs.length = j - fi := by
        have a := Nat.div_add_mod (ss.length - z) rs.length
        have b : ss.length - z + j = (j - fi) + rs.length * ((ss.length - z) / rs.length + 1) := by rw [Nat.mul_add, Nat.mul_one]; omega
        rw [b, Nat.add_mul_mod_self_left]; exact Nat.mod_eq_of_lt (by omega)
      rw [e]
  · rw [List.getElem?_eq_none (by simp; omega), List.getElem?_eq_none (by simp; omega)]
theorem nat_of {a : Int64} {n : Nat} (h : a.toInt = n) (q : n < 2147483648) : a.toInt32.toInt = n := by
  have a1 := c_l2i a; have a2 := rng32 a.toInt32; omega
theorem lrem_nat {a b : Int64} {i j : Nat} (ha : a.toInt = i) (hb : b.toInt = j) : (a - (a / b) * b).toInt = ((i % j : Nat) : Int) := by
  rw [(c_lrem a b j hb).1 (by omega), ha]; rfl
theorem irem_nat {a b : Int32} {i j : Nat} (ha : a.toInt = i) (hb : b.toInt = j) : (a % b).toInt = ((i % j : Nat) : Int) := by
  rw [(c_irem a b j hb).1 (by omega), ha]; rfl
theorem l_of {n : Nat} (q : n < 2147483648) : n.toInt32.toInt64.toInt = n := by rw [c_i2l, n32 q]
theorem nz32 {n : Nat} (q : n < 2147483648) (p : 0 < n) : ¬ n.toInt32 = 0 := fun e => by have := n32 q; rw [e] at this; have e0 : (0 : Int32).toInt = 0 := rfl; omega
theorem nz64 {n : Nat} (q : n < 2147483648) (p : 0 < n) : ¬ n.toInt32.toInt64 = 0 := fun e => by have := l_of q; rw [e] at this; have e0 : (0 : Int64).toInt = 0 := rfl; omega
theorem sub_nat {a b : Int32} {i j : Nat} (ha : a.toInt = i) (hb : b.toInt = j) (q : j ≤ i) : (a - b).toInt = ((i - j : Nat) : Int) := by
  have c := c_isub a b; have d := rng32 (a - b); have e := rng32 a; omega
theorem add_nat {a b : Int32} {i j : Nat} (ha : a.toInt = i) (hb : b.toInt = j) (q : i + j < 2147483648) : (a + b).toInt = ((i + j : Nat) : Int) := by
  have c := c_iadd a b; have d := rng32 (a + b); omega
theorem ladd_nat {a b : Int64} {i j : Nat} (ha : a.toInt = i) (hb : b.toInt = j) (q : i + j < 2147483648) : (a + b).toInt = ((i + j : Nat) : Int) := by
  have c := c_ladd a b; have d := rng64 (a + b); omega
theorem lsub_nat {a b : Int64} {i j : Nat} (ha : a.toInt = i) (hb : b.toInt = j) (q : j ≤ i) : (a - b).toInt = ((i - j : Nat) : Int) := by
  have c := c_lsub a b; have d := rng64 (a - b); have e := rng64 a; omega
theorem min_nat {a b : Int32} {i j : Nat} (ha : a.toInt = i) (hb : b.toInt = j) : (if b < a then b else a).toInt = ((min i j : Nat) : Int) := by
  split
  · rename_i q; rw [Int32.lt_iff_toInt_lt] at q; omega
  · rename_i q; rw [Int32.lt_iff_toInt_lt] at q; omega
theorem minJ_nat {a b : Int64} {i j : Nat} (ha : a.toInt = i) (hb : b.toInt = j) : (if b < a then b else a).toInt = ((min i j : Nat) : Int) := by
  split
  · rename_i q; rw [Int64.lt_iff_toInt_lt] at q; omega
  · rename_i q; rw [Int64.lt_iff_toInt_lt] at q; omega
theorem lt_nat {a b : Int32} {i j : Nat} (ha : a.toInt = i) (hb : b.toInt = j) : a < b ↔ i < j := by rw [Int32.lt_iff_toInt_lt, ha, hb]; omega
theorem eq_nat {a b : Int32} {i j : Nat} (ha : a.toInt = i) (hb : b.toInt = j) : a = b ↔ i = j := by rw [← Int32.toInt_inj, ha, hb]; omega
theorem pos_nat {a : Int32} {i : Nat} (ha : a.toInt = i) : 0 < a ↔ 0 < i := by
  rw [Int32.lt_iff_toInt_lt, ha]; have e0 : (0 : Int32).toInt = 0 := rfl; omega
/-- an OutputTail: its ring, the stream's length -/
def OR (Z : State) (h : Heap) (to ring : Addr) (w64 : Int64) (rs ss : List Int32) : Prop := Exa Z h to "com/example/chore_scheduler/chorescheduler/exec/OutputTail" ∧ Fld Z h to "com/example/chore_scheduler/chorescheduler/exec/OutputTail" "written" "J" (.long w64) ∧ Fld Z h to "com/example/chore_scheduler/chorescheduler/exec/OutputTail" "ring" "[B" (.ref ring) ∧ VArr Z h ring .byte (rs.map Value.int) ∧ w64.toInt = (ss.length : Int) ∧ 0 < rs.length ∧ rs.length ≤ 8 ∧ RI rs ss

theorem ef_rmMin (m : MethodId) (x0 : Int32) (x1 : Int32) : entryFrame m #[(.int x0), (.int x1)] 2 = mkF m 0 #[.val (.int x0), .val (.int x1)] [] := by first | (simp [entryFrame, mkF, argsToLocals, Value.category]; done) | rfl
set_option maxRecDepth 65536 in
set_option maxHeartbeats 40000000 in
theorem rmMin (l : Launch) (Z : State) (a0 : Array Value) (hw : ∀ d ∈ tables_1, d.before a0 Z = true) (p1 p2 : Int32) (h0 : Heap)  :
    Met l Z (⟨"java/lang/Math", "min", "(II)I"⟩ : MethodName) jdk_29_method_69_code 2 (some .int) ({ frames := 0, cells := 0, slots := 0, locals := 0 } : Room) #[(.int p1), (.int p2)] h0 (fun v h L => v = some (.int (if p2 < p1 then p2 else p1)) ∧ L = [] ∧ h = h0) := by
  refine Met.intro (Jvm.Free.JP.mathPlain rfl (by decide +kernel)) ?_
  intro p e s m below meth c T0 hx hby hml hown hnm hret hlk hZ X0 e0
  refine Go.cast (ef_rmMin m p1 p2) ?_
  refine Go.back (f' := (mkF m 1 #[.val (.int p1), .val (.int p2)] [(.int p1)])) (fun _ k => XS.iloadN X0.here hx rfl (hb hby d6_0) rfl k) ?_
  refine Go.back (f' := (mkF m 2 #[.val (.int p1), .val (.int p2)] [(.int p2), (.int p1)])) (fun _ k => XS.iloadN X0.here hx rfl (hb hby d6_1) rfl k) ?_
  by_cases hc : p2 < p1
  · refine Go.back (f' := (mkF m 9 #[.val (.int p1), .val (.int p2)] [])) (fun _ k => XS.icmpYes X0.here hx rfl (pc0 := 2) (pc' := 9) rfl (hb hby d6_2) rfl (tlt hc).2.2.1 (by decide) (by decide) k) ?_
    refine Go.back (f' := (mkF m 10 #[.val (.int p1), .val (.int p2)] [(.int p2)])) (fun _ k => XS.iloadN X0.here hx rfl (hb hby d6_9) rfl k) ?_
    exact Go.retI X0 hx hret hlk (hb hby d6_10) (by (try rw [e0]); exact ⟨by rw [if_pos hc], rfl, rfl⟩) (Nat.zero_le _) (Nat.zero_le _)
  · refine Go.back (f' := (mkF m 5 #[.val (.int p1), .val (.int p2)] [])) (fun _ k => XS.icmpNo X0.here hx rfl (hb hby d6_2) rfl (flt hc).2.2.1 k) ?_
    refine Go.back (f' := (mkF m 6 #[.val (.int p1), .val (.int p2)] [(.int p1)])) (fun _ k => XS.iloadN X0.here hx rfl (hb hby d6_5) rfl k) ?_
    refine Go.back (f' := (mkF m 10 #[.val (.int p1), .val (.int p2)] [(.int p1)])) (fun _ k => XS.goto X0.here hx rfl (pc0 := 6) (pc' := 10) rfl (hb hby d6_6) (by decide) (by decide) k) ?_
    exact Go.retI X0 hx hret hlk (hb hby d6_10) (by (try rw [e0]); exact ⟨by rw [if_neg hc], rfl, rfl⟩) (Nat.zero_le _) (Nat.zero_le _)
theorem ef_rmMinJ (m : MethodId) (x0 : Int64) (x1 : Int64) : entryFrame m #[(.long x0), (.long x1)] 4 = mkF m 0 #[.val (.long x0), .second, .val (.long x1), .second] [] := by first | (simp [entryFrame, mkF, argsToLocals, Value.category]; done) | rfl
set_option maxRecDepth 65536 in
set_option maxHeartbeats 40000000 in
theorem rmMinJ (l : Launch) (Z : State) (a0 : Array Value) (hw : ∀ d ∈ tables_1, d.before a0 Z = true) (p1 p2 : Int64) (h0 : Heap)  :
    Met l Z (⟨"java/lang/Math", "min", "(JJ)J"⟩ : MethodName) jdk_29_method_70_code 4 (some .long) ({ frames := 0, cells := 0, slots := 0, locals := 0 } : Room) #[(.long p1), (.long p2)] h0 (fun v h L => v = some (.long (if p2 < p1 then p2 else p1)) ∧ L = [] ∧ h = h0) := by
  refine Met.intro (Jvm.Free.JP.mathPlain rfl (by decide +kernel)) ?_
  intro p e s m below meth c T0 hx hby hml hown hnm hret hlk hZ X0 e0
  refine Go.cast (ef_rmMinJ m p1 p2) ?_
  refine Go.back (f' := (mkF m 1 #[.val (.long p1), .second, .val (.long p2), .second] [(.long p1)])) (fun _ k => XS.lloadN X0.here hx rfl (hb hby d5_0) rfl k) ?_
  refine Go.back (f' := (mkF m 2 #[.val (.long p1), .second, .val (.long p2), .second] [(.long p2), (.long p1)])) (fun _ k => XS.lloadN X0.here hx rfl (hb hby d5_1) rfl k) ?_
  refine Go.back (f' := (mkF m 3 #[.val (.long p1), .second, .val (.long p2), .second] [(.int (lcmpW p1 p2))])) (fun _ k => XS.lcmp X0.here hx rfl (hb hby d5_2) rfl k) ?_
  by_cases hc : p2 < p1
  · refine Go.back (f' := (mkF m 10 #[.val (.long p1), .second, .val (.long p2), .second] [])) (fun _ k => XS.ifYes X0.here hx rfl (pc0 := 3) (pc' := 10) rfl (hb hby d5_3) rfl (l_gt_t hc) (by decide) (by decide) k) ?_
    refine Go.back (f' := (mkF m 11 #[.val (.long p1), .second, .val (.long p2), .second] [(.long p2)])) (fun _ k => XS.lloadN X0.here hx rfl (hb hby d5_10) rfl k) ?_
    exact Go.retJ X0 hx hret hlk (hb hby d5_11) (by (try rw [e0]); exact ⟨by rw [if_pos hc], rfl, rfl⟩) (Nat.zero_le _) (Nat.zero_le _)
  · refine Go.back (f' := (mkF m 6 #[.val (.long p1), .second, .val (.long p2), .second] [])) (fun _ k => XS.ifNo X0.here hx rfl (hb hby d5_3) rfl (l_gt_f hc) k) ?_
    refine Go.back (f' := (mkF m 7 #[.val (.long p1), .second, .val (.long p2), .second] [(.long p1)])) (fun _ k => XS.lloadN X0.here hx rfl (hb hby d5_6) rfl k) ?_
    refine Go.back (f' := (mkF m 11 #[.val (.long p1), .second, .val (.long p2), .second] [(.long p1)])) (fun _ k => XS.goto X0.here hx rfl (pc0 := 7) (pc' := 11) rfl (hb hby d5_7) (by decide) (by decide) k) ?_
    exact Go.retJ X0 hx hret hlk (hb hby d5_11) (by (try rw [e0]); exact ⟨by rw [if_neg hc], rfl, rfl⟩) (Nat.zero_le _) (Nat.zero_le _)
theorem ef_rmIni (m : MethodId) (x0 : Addr) (x1 : Int32) : entryFrame m #[(.ref x0), (.int x1)] 2 = mkF m 0 #[.val (.ref x0), .val (.int x1)] [] := by first | (simp [entryFrame, mkF, argsToLocals, Value.category]; done) | rfl
set_option maxRecDepth 65536 in
set_option maxHeartbeats 40000000 in
theorem rmIni (l : Launch) (Z : State) (a0 : Array Value) (hw : ∀ d ∈ tables_1, d.before a0 Z = true) (to : Addr) (cc : Int32) (i n0 : Nat) (h0 : Heap) (Z0 : n0 ≤ h0.size) (Ex : Exa Z h0 to "com/example/chore_scheduler/chorescheduler/exec/OutputTail") (F1 : Fld Z h0 to "com/example/chore_scheduler/chorescheduler/exec/OutputTail" "written" "J" (.long (0 : Int64))) (F2 : Fld Z h0 to "com/example/chore_scheduler/chorescheduler/exec/OutputTail" "ring" "[B" .null) (hc : cc.toInt = i) (i1 : 1 ≤ i) (i8 : i ≤ 8) (g_to : n0 ≤ to) :
    Met l Z (⟨"com/example/chore_scheduler/chorescheduler/exec/OutputTail", "<init>", "(I)V"⟩ : MethodName) prog_3_method_1_code 2 none ({ frames := 1, cells := 1, slots := 8, locals := 12 } : Room) #[(.ref to), (.int cc)] h0 (fun v h L => v = none ∧ Chg n0 h0 h [to] L ∧ ∃ ring rs, h0.size ≤ ring ∧ rs.length = i ∧ OR Z h to ring 0 rs []) := by
  refine Met.intro (plainFor_of_name (by first | (simp [plainName, overriddenIn]; done) | decide +kernel)) ?_
  intro p e s m below meth c T0 hx hby hml hown hnm hret hlk hZ X0 e0
  refine Go.cast (ef_rmIni m to cc) ?_
  have K0 : Chg n0 h0 h0 [to] [] := Chg.refl Z0
  refine Go.back (f' := (mkF m 1 #[.val (.ref to), .val (.int cc)] [(.ref to)])) (fun _ k => XS.aloadN X0.here hx rfl (hb hby d1_0) rfl rfl k) ?_
  obtain ⟨T1, X1, e1, st1⟩ := initO X0 hx hZ hown (hw _ (List.mem_of_getElem? (i := 8) rfl)) (hw _ (List.mem_of_getElem? (i := 9) rfl)) (hw _ (List.mem_of_getElem? (i := 10) rfl)) e0 (g := (mkF m 1 #[.val (.ref to), .val (.int cc)] [(.ref to)])) rfl (by rw [hml]; rfl) rfl (hb hby d1_1) (by decide) (W := 0) (by show 2 * 0 + _ ≤ _; exact Nat.le_of_eq rfl) (by decide)
  refine Go.back (f' := (mkF m 4 #[.val (.ref to), .val (.int cc)] [])) st1 ?_
  refine Go.back (f' := (mkF m 5 #[.val (.ref to), .val (.int cc)] [(.ref to)])) (fun _ k => XS.aloadN X1.here hx rfl (hb hby d1_4) rfl rfl k) ?_
  refine Go.back (f' := (mkF m 6 #[.val (.ref to), .val (.int cc)] [(.int cc), (.ref to)])) (fun _ k => XS.iloadN X1.here hx rfl (hb hby d1_5) rfl k) ?_
  refine Go.newA X1 hx hZ (hw _ (List.mem_of_getElem? (i := 0) rfl)) e1 (hb hby d1_6) (i := i) hc (cap := 8) i8 (by decide) (by decide) (by decide) ?_
  intro T2 h2 ring q2 X2 e2 E2 V2
  have V2 : VArr Z h2 ring .byte (List.replicate i (.int 0)) := V2
  have ne_to_ring : to ≠ ring := lt_ne q2 Ex.lt
  have sz_ring := K0.at q2
  have g_ring := K0.ge sz_ring
  have Ex_3 := Ex.ext E2
  have Fl_4 := F1.ext E2
  have Fl_5 := F2.ext E2
  have K_6 := K0.ext E2
  show GoG _ _ _ _ _ (mkF m 8 #[.val (.ref to), .val (.int cc)] [(.ref ring), (.ref to)])
  obtain ⟨T7, h7, X7, e7, W7, st7⟩ := putF X2 hx hZ hown (host := "") (Or.inl (hw _ (List.mem_of_getElem? (i := 11) rfl))) Via.refl e2 Fl_5 Ex_3 (Or.inr ⟨(hw _ (List.mem_of_getElem? (i := 12) rfl)), rfl, hnm⟩) (hw _ (List.mem_of_getElem? (i := 3) rfl)) (ty := (.array .byte)) (by decide) rfl rfl (g := (mkF m 8 #[.val (.ref to), .val (.int cc)] [(.ref ring), (.ref to)])) rfl rfl (hb hby d1_8)
  refine Go.back (f' := (mkF m 11 #[.val (.ref to), .val (.int cc)] [])) st7 ?_
  have Ex_8 := Ex_3.wr W7
  have Fl_9 := Fl_4.other W7 (Or.inr (slot_ne (Or.inl (hw _ (List.mem_of_getElem? (i := 19) rfl))) (Or.inr (hw _ (List.mem_of_getElem? (i := 12) rfl))) (by decide) (t := .long) (t' := (.array .byte)) (by decide) (by decide)))
  have Fl_10 := Fl_5.same W7
  have Ar_11 := V2.other W7 (Ne.symm ne_to_ring)
  have K_12 := K_6.wr W7 (Or.inl (List.mem_of_getElem? (i := 0) rfl)) g_to
  exact Go.ret0 X7 hx hret hlk (hb hby d1_11) (by (try rw [e7]); exact ⟨rfl, K_12, ring, List.replicate i 0, sz_ring, List.length_replicate, Ex_8, Fl_9, Fl_10, Ar_11.to (by simp), rfl, (by simp; omega), (by simp; omega), fun k q => absurd q (by simp)⟩) (by decide) (by decide)
theorem ef_rmWr (m : MethodId) (x0 : Addr) (x1 : Addr) (x2 : Int32) (x3 : Int32) : entryFrame m #[(.ref x0), (.ref x1), (.int x2), (.int x3)] 8 = mkF m 0 #[.val (.ref x0), .val (.ref x1), .val (.int x2), .val (.int x3), .unset, .unset, .unset, .unset] [] := by first | (simp [entryFrame, mkF, argsToLocals, Value.category]; done) | rfl
set_option maxRecDepth 65536 in
set_option maxHeartbeats 40000000 in
theorem rmWr (l : Launch) (Z : State) (a0 : Array Value) (hw : ∀ d ∈ tables_1, d.before a0 Z = true) (to ring bf : Addr) (w64 : Int64) (of ln : Int32) (rs ss bs : List Int32) (o n n0 : Nat) (h0 : Heap) (Z0 : n0 ≤ h0.size) (R0 : OR Z h0 to ring w64 rs ss) (B : VArr Z h0 bf .byte (bs.map Value.int)) (ne_ring_bf : ring ≠ bf) (ho : of.toInt = o) (hn : ln.toInt = n) (hon : o + n ≤ bs.length) (hbl : bs.length ≤ 8) (hs : ss.length ≤ 1000) (g_to : n0 ≤ to) (g_ring : n0 ≤ ring) :
    Met l Z (⟨"com/example/chore_scheduler/chorescheduler/exec/OutputTail", "write", "([BII)V"⟩ : MethodName) prog_3_method_2_code 8 none ({ frames := 1, cells := 0, slots := 0, locals := 24 } : Room) #[(.ref to), (.ref bf), (.int of), (.int ln)] h0 (fun v h L => v = none ∧ Chg n0 h0 h [to, ring] L ∧ ∃ qs, qs.length = rs.length ∧ OR Z h to ring (w64 + ln.toInt64) qs (ss ++ (bs.drop o).take n)) := by
  refine Met.intro (plainFor_of_name (by first | (simp [plainName, overriddenIn]; done) | decide +kernel)) ?_
  intro p e s m below meth c T0 hx hby hml hown hnm hret hlk hZ X0 e0
  refine Go.cast (ef_rmWr m to bf of ln) ?_
  obtain ⟨Ex, F1, F2, A, hW, c1, c8, hR⟩ := R0
  have ne_to_ring : to ≠ ring := A.exa_ne Ex (hw _ (List.mem_of_getElem? (i := 3) rfl))
  have K0 : Chg n0 h0 h0 [to, ring] [] := Chg.refl Z0
  have hcl : rs.length < 2147483648 := by omega
  have ne_to_bf : to ≠ bf := B.exa_ne Ex (hw _ (List.mem_of_getElem? (i := 3) rfl))
  refine Go.back (f' := (mkF m 1 #[.val (.ref to), .val (.ref bf), .val (.int of), .val (.int ln), .unset, .unset, .unset, .unset] [(.ref to)])) (fun _ k => XS.aloadN X0.here hx rfl (hb hby d3_0) rfl rfl k) ?_
  obtain ⟨T13, X13, e13, st13⟩ := getF X0 hx hZ hown (host := "") (Or.inl (hw _ (List.mem_of_getElem? (i := 18) rfl))) Via.refl e0 F1 (g := (mkF m 1 #[.val (.ref to), .val (.ref bf), .val (.int of), .val (.int ln), .unset, .unset, .unset, .unset] [(.ref to)])) rfl rfl (hb hby d3_1)
  refine Go.back (f' := (mkF m 4 #[.val (.ref to), .val (.ref bf), .val (.int of), .val (.int ln), .unset, .unset, .unset, .unset] [(.long w64)])) st13 ?_
  refine Go.back (f' := (mkF m 5 #[.val (.ref to), .val (.ref bf), .val (.int of), .val (.int ln), .unset, .unset, .unset, .unset] [(.ref to), (.long w64)])) (fun _ k => XS.aloadN X13.here hx rfl (hb hby d3_4) rfl rfl k) ?_
  obtain ⟨T14, X14, e14, st14⟩ := getF X13 hx hZ hown (host := "") (Or.inl (hw _ (List.mem_of_getElem? (i := 11) rfl))) Via.refl e13 F2 (g := (mkF m 5 #[.val (.ref to), .val (.ref bf), .val (.int of), .val (.int ln), .unset, .unset, .unset, .unset] [(.ref to), (.long w64)])) rfl rfl (hb hby d3_5)
  refine Go.back (f' := (mkF m 8 #[.val (.ref to), .val (.ref bf), .val (.int of), .val (.int ln), .unset, .unset, .unset, .unset] [(.ref ring), (.long w64)])) st14 ?_
  refine Go.back (f' := (mkF m 9 #[.val (.ref to), .val (.ref bf), .val (.int of), .val (.int ln), .unset, .unset, .unset, .unset] [(.int ((rs.map Value.int)).length.toInt32), (.long w64)])) (A.lenS X14 hx hZ e14 (hb hby d3_8)) ?_
  rw [List.length_map]
  show GoG _ _ _ _ _ (mkF m 9 #[.val (.ref to), .val (.ref bf), .val (.int of), .val (.int ln), .unset, .unset, .unset, .unset] [(.int rs.length.toInt32), (.long w64)])
  refine Go.back (f' := (mkF m 10 #[.val (.ref to), .val (.ref bf), .val (.int of), .val (.int ln), .unset, .unset, .unset, .unset] [(.long (rs.length.toInt32.toInt64)), (.long w64)])) (fun _ k => XS.i2l X14.here hx rfl (hb hby d3_9) rfl k) ?_
  refine Go.back (f' := (mkF m 11 #[.val (.ref to), .val (.ref bf), .val (.int of), .val (.int ln), .unset, .unset, .unset, .unset] [(.long (w64 - (w64 / (rs.length.toInt32.toInt64)) * (rs.length.toInt32.toInt64)))])) (fun _ k => XS.lrem X14.here hx rfl (hb hby d3_10) rfl (nz64 hcl c1) k) ?_
  refine Go.back (f' := (mkF m 12 #[.val (.ref to), .val (.ref bf), .val (.int of), .val (.int ln), .unset, .unset, .unset, .unset] [(.int ((w64 - (w64 / (rs.length.toInt32.toInt64)) * (rs.length.toInt32.toInt64)).toInt32))])) (fun _ k => XS.l2i X14.here hx rfl (hb hby d3_11) rfl k) ?_
  have ha := nat_of (lrem_nat hW (l_of hcl)) (by have := Nat.mod_lt ss.length c1; omega)
  generalize ea : ((w64 - (w64 / (rs.length.toInt32.toInt64)) * (rs.length.toInt32.toInt64)).toInt32) = a32
  rw [ea] at ha
  refine Go.back (f' := (mkF m 14 #[.val (.ref to), .val (.ref bf), .val (.int of), .val (.int ln), .val (.int a32), .unset, .unset, .unset] [])) (fun _ k => XS.istore X14.here hx rfl (hb hby d3_12) rfl (l' := #[.val (.ref to), .val (.ref bf), .val (.int of), .val (.int ln), .val (.int a32), .unset, .unset, .unset]) rfl k) ?_
  refine Go.back (f' := (mkF m 15 #[.val (.ref to), .val (.ref bf), .val (.int of), .val (.int ln), .val (.int a32), .unset, .unset, .unset] [(.int ln)])) (fun _ k => XS.iloadN X14.here hx rfl (hb hby d3_14) rfl k) ?_
  refine Go.back (f' := (mkF m 17 #[.val (.ref to), .val (.ref bf), .val (.int of), .val (.int ln), .val (.int a32), .val (.int ln), .unset, .unset] [])) (fun _ k => XS.istore X14.here hx rfl (hb hby d3_15) rfl (l' := #[.val (.ref to), .val (.ref bf), .val (.int of), .val (.int ln), .val (.int a32), .val (.int ln), .unset, .unset]) rfl k) ?_
  refine Go.back (f' := (mkF m 18 #[.val (.ref to), .val (.ref bf), .val (.int of), .val (.int ln), .val (.int a32), .val (.int ln), .unset, .unset] [(.int of)])) (fun _ k => XS.iloadN X14.here hx rfl (hb hby d3_17) rfl k) ?_
  refine Go.back (f' := (mkF m 20 #[.val (.ref to), .val (.ref bf), .val (.int of), .val (.int ln), .val (.int a32), .val (.int ln), .val (.int of), .unset] [])) (fun _ k => XS.istore X14.here hx rfl (hb hby d3_18) rfl (l' := #[.val (.ref to), .val (.ref bf), .val (.int of), .val (.int ln), .val (.int a32), .val (.int ln), .val (.int of), .unset]) rfl k) ?_
  have lp : ∀ (u : Nat) (d : Nat) (T : State) (h : Heap) (locs : List Loc) (qs : List Int32) (a32 l32 f32 : Int32) (s7 : Slot), Stand p l e ({ frames := 1, cells := 0, slots := 0, locals := 24 } : Room) s m #[(.ref to), (.ref bf), (.int of), (.int ln)] below meth c T locs 0 0 → T.heap = h → Exa Z h to "com/example/chore_scheduler/chorescheduler/exec/OutputTail" → Fld Z h to "com/example/chore_scheduler/chorescheduler/exec/OutputTail" "written" "J" (.long w64) → Fld Z h to "com/example/chore_scheduler/chorescheduler/exec/OutputTail" "ring" "[B" (.ref ring) → VArr Z h ring .byte (qs.map Value.int) → VArr Z h bf .byte (bs.map Value.int) → Chg n0 h0 h [to, ring] locs → a32.toInt = (((ss.length + d) % qs.length : Nat) : Int) → l32.toInt = (u : Int) → f32.toInt = ((o + d : Nat) : Int) → d + u = n → qs.length = rs.length → RI qs (ss ++ (bs.drop o).take d) → (s7 = .unset ∨ ∃ q, s7 = .val (.int q)) → Go p e below s (fun v h L => v = none ∧ Chg n0 h0 h [to, ring] L ∧ ∃ qs, qs.length = rs.length ∧ OR Z h to ring (w64 + ln.toInt64) qs (ss ++ (bs.drop o).take n)) ({ frames := 1, cells := 0, slots := 0, locals := 24 } : Room).cells ({ frames := 1, cells := 0, slots := 0, locals := 24 } : Room).slots T (mkF m 20 #[.val (.ref to), .val (.ref bf), .val (.int of), .val (.int ln), .val (.int a32), .val (.int l32), .val (.int f32), s7] []) := by
    intro u
    induction u using Nat.strongRecOn with
    | ind u ih =>
      intro d T20 h20 locs20 qs a32 l32 f32 s7 X20 e20 Ex20 F120 F220 A20 B20 K20 ha hl hf hd hql hR hs7
      have hqc : qs.length < 2147483648 := by omega
      have hat := Nat.mod_lt (ss.length + d) (show 0 < qs.length by omega)
      generalize hp : (ss.length + d) % qs.length = p at *
      refine Go.back (f' := (mkF m 22 #[.val (.ref to), .val (.ref bf), .val (.int of), .val (.int ln), .val (.int a32), .val (.int l32), .val (.int f32), s7] [(.int l32)])) (fun _ k => XS.iload X20.here hx rfl (hb hby d3_20) rfl k) ?_
      by_cases h0 : 0 < l32
      · refine Go.back (f' := (mkF m 25 #[.val (.ref to), .val (.ref bf), .val (.int of), .val (.int ln), .val (.int a32), .val (.int l32), .val (.int f32), s7] [])) (fun _ k => XS.ifNo X20.here hx rfl (hb hby d3_22) rfl ((if0 _ _).trans (tlt h0).2.2.2) k) ?_
        have u0 := (pos_nat hl).mp h0
        refine Go.back (f' := (mkF m 27 #[.val (.ref to), .val (.ref bf), .val (.int of), .val (.int ln), .val (.int a32), .val (.int l32), .val (.int f32), s7] [(.int l32)])) (fun _ k => XS.iload X20.here hx rfl (hb hby d3_25) rfl k) ?_
        refine Go.back (f' := (mkF m 28 #[.val (.ref to), .val (.ref bf), .val (.int of), .val (.int ln), .val (.int a32), .val (.int l32), .val (.int f32), s7] [(.ref to), (.int l32)])) (fun _ k => XS.aloadN X20.here hx rfl (hb hby d3_27) rfl rfl k) ?_
        obtain ⟨T15, X15, e15, st15⟩ := getF X20 hx hZ hown (host := "") (Or.inl (hw _ (List.mem_of_getElem? (i := 11) rfl))) Via.refl e20 F220 (g := (mkF m 28 #[.val (.ref to), .val (.ref bf), .val (.int of), .val (.int ln), .val (.int a32), .val (.int l32), .val (.int f32), s7] [(.ref to), (.int l32)])) rfl rfl (hb hby d3_28)
        refine Go.back (f' := (mkF m 31 #[.val (.ref to), .val (.ref bf), .val (.int of), .val (.int ln), .val (.int a32), .val (.int l32), .val (.int f32), s7] [(.ref ring), (.int l32)])) st15 ?_
        refine Go.back (f' := (mkF m 32 #[.val (.ref to), .val (.ref bf), .val (.int of), .val (.int ln), .val (.int a32), .val (.int l32), .val (.int f32), s7] [(.int ((qs.map Value.int)).length.toInt32), (.int l32)])) (A20.lenS X15 hx hZ e15 (hb hby d3_31)) ?_
        rw [List.length_map]
        show GoG _ _ _ _ _ (mkF m 32 #[.val (.ref to), .val (.ref bf), .val (.int of), .val (.int ln), .val (.int a32), .val (.int l32), .val (.int f32), s7] [(.int qs.length.toInt32), (.int l32)])
        refine Go.back (f' := (mkF m 34 #[.val (.ref to), .val (.ref bf), .val (.int of), .val (.int ln), .val (.int a32), .val (.int l32), .val (.int f32), s7] [(.int a32), (.int qs.length.toInt32), (.int l32)])) (fun _ k => XS.iload X15.here hx rfl (hb hby d3_32) rfl k) ?_
        refine Go.back (f' := (mkF m 35 #[.val (.ref to), .val (.ref bf), .val (.int of), .val (.int ln), .val (.int a32), .val (.int l32), .val (.int f32), s7] [(.int (qs.length.toInt32 - a32)), (.int l32)])) (fun _ k => XS.isub X15.here hx rfl (hb hby d3_34) rfl k) ?_
        refine Go.callS X15 hx hZ hown (hw _ (List.mem_of_getElem? (i := 29) rfl)) (hw _ (List.mem_of_getElem? (i := 30) rfl)) (hw _ (List.mem_of_getElem? (i := 27) rfl)) (hw _ (List.mem_of_getElem? (i := 31) rfl)) (by decide) e15 (argsL := [(.int l32), (.int (qs.length.toInt32 - a32))]) (rest := []) (rmMin l Z a0 hw l32 (qs.length.toInt32 - a32) h20) (lenOf pd_0 rfl) rfl (by rw [hml]; rfl) (W := 0) (Nat.le_of_eq rfl) (hb hby d3_35) (by decide) (by decide) (by decide) (by decide) ?_
        intro v16 T16 L16 X16 hQ16
        obtain ⟨rfl, rfl, hh16⟩ := hQ16
        rw [List.append_nil] at X16
        have ht := min_nat hl (sub_nat (n32 hqc) ha (by omega))
        generalize (if (qs.length.toInt32 - a32) < l32 then (qs.length.toInt32 - a32) else l32) = t32 at ht ⊢
        obtain ⟨t, et⟩ : ∃ t, t = min u (qs.length - p) := ⟨_, rfl⟩
        rw [← et] at ht
        show GoG _ _ _ _ _ (mkF m 38 #[.val (.ref to), .val (.ref bf), .val (.int of), .val (.int ln), .val (.int a32), .val (.int l32), .val (.int f32), s7] [(.int t32)])
        refine Go.back (f' := (mkF m 40 #[.val (.ref to), .val (.ref bf), .val (.int of), .val (.int ln), .val (.int a32), .val (.int l32), .val (.int f32), .val (.int t32)] [])) (fun _ k => XS.istore X16.here hx rfl (hb hby d3_38) rfl (l' := #[.val (.ref to), .val (.ref bf), .val (.int of), .val (.int ln), .val (.int a32), .val (.int l32), .val (.int f32), .val (.int t32)]) (by rcases hs7 with rfl | ⟨_, rfl⟩ <;> rfl) k) ?_
        refine Go.back (f' := (mkF m 41 #[.val (.ref to), .val (.ref bf), .val (.int of), .val (.int ln), .val (.int a32), .val (.int l32), .val (.int f32), .val (.int t32)] [(.ref bf)])) (fun _ k => XS.aloadN X16.here hx rfl (hb hby d3_40) rfl rfl k) ?_
        refine Go.back (f' := (mkF m 43 #[.val (.ref to), .val (.ref bf), .val (.int of), .val (.int ln), .val (.int a32), .val (.int l32), .val (.int f32), .val (.int t32)] [(.int f32), (.ref bf)])) (fun _ k => XS.iload X16.here hx rfl (hb hby d3_41) rfl k) ?_
        refine Go.back (f' := (mkF m 44 #[.val (.ref to), .val (.ref bf), .val (.int of), .val (.int ln), .val (.int a32), .val (.int l32), .val (.int f32), .val (.int t32)] [(.ref to), (.int f32), (.ref bf)])) (fun _ k => XS.aloadN X16.here hx rfl (hb hby d3_43) rfl rfl k) ?_
        obtain ⟨T17, X17, e17, st17⟩ := getF X16 hx hZ hown (host := "") (Or.inl (hw _ (List.mem_of_getElem? (i := 11) rfl))) Via.refl hh16 F220 (g := (mkF m 44 #[.val (.ref to), .val (.ref bf), .val (.int of), .val (.int ln), .val (.int a32), .val (.int l32), .val (.int f32), .val (.int t32)] [(.ref to), (.int f32), (.ref bf)])) rfl rfl (hb hby d3_44)
        refine Go.back (f' := (mkF m 47 #[.val (.ref to), .val (.ref bf), .val (.int of), .val (.int ln), .val (.int a32), .val (.int l32), .val (.int f32), .val (.int t32)] [(.ref ring), (.int f32), (.ref bf)])) st17 ?_
        refine Go.back (f' := (mkF m 49 #[.val (.ref to), .val (.ref bf), .val (.int of), .val (.int ln), .val (.int a32), .val (.int l32), .val (.int f32), .val (.int t32)] [(.int a32), (.ref ring), (.int f32), (.ref bf)])) (fun _ k => XS.iload X17.here hx rfl (hb hby d3_47) rfl k) ?_
        refine Go.back (f' := (mkF m 51 #[.val (.ref to), .val (.ref bf), .val (.int of), .val (.int ln), .val (.int a32), .val (.int l32), .val (.int f32), .val (.int t32)] [(.int t32), (.int a32), (.ref ring), (.int f32), (.ref bf)])) (fun _ k => XS.iload X17.here hx rfl (hb hby d3_49) rfl k) ?_
        refine Go.cpy X17 hx hZ hown (hw _ (List.mem_of_getElem? (i := 32) rfl)) (hw _ (List.mem_of_getElem? (i := 35) rfl)) (hw _ (List.mem_of_getElem? (i := 33) rfl)) (hw _ (List.mem_of_getElem? (i := 34) rfl)) e17 B20 A20 rfl (i := (o + d)) hf (j' := p) ha (n := t) ht (by rw [List.length_map]; omega) (by rw [List.length_map]; omega) K20.fr g_ring (by rw [hml]; rfl) (hb hby d3_51) (by decide) (W := 0) (Nat.le_of_eq rfl) (by decide) ?_
        intro T18 h18 L18 X18 e18 N18 Kc18 V18
        have Ex_19 := Ex20.keep Kc18
        have Fl_20 := F120.keep Kc18 (ninS ne_to_ring nin0)
        have Fl_21 := F220.keep Kc18 (ninS ne_to_ring nin0)
        have Ar_22 := B20.keep Kc18 (ninS (Ne.symm ne_ring_bf) nin0)
        have K_23 := K20.cpy Kc18 N18 (Or.inl (List.mem_of_getElem? (i := 1) rfl))
        show GoG _ _ _ _ _ (mkF m 54 #[.val (.ref to), .val (.ref bf), .val (.int of), .val (.int ln), .val (.int a32), .val (.int l32), .val (.int f32), .val (.int t32)] [])
        refine Go.back (f' := (mkF m 56 #[.val (.ref to), .val (.ref bf), .val (.int of), .val (.int ln), .val (.int a32), .val (.int l32), .val (.int f32), .val (.int t32)] [(.int f32)])) (fun _ k => XS.iload X18.here hx rfl (hb hby d3_54) rfl k) ?_
        refine Go.back (f' := (mkF m 58 #[.val (.ref to), .val (.ref bf), .val (.int of), .val (.int ln), .val (.int a32), .val (.int l32), .val (.int f32), .val (.int t32)] [(.int t32), (.int f32)])) (fun _ k => XS.iload X18.here hx rfl (hb hby d3_56) rfl k) ?_
        refine Go.back (f' := (mkF m 59 #[.val (.ref to), .val (.ref bf), .val (.int of), .val (.int ln), .val (.int a32), .val (.int l32), .val (.int f32), .val (.int t32)] [(.int (f32 + t32))])) (fun _ k => XS.iadd X18.here hx rfl (hb hby d3_58) rfl k) ?_
        refine Go.back (f' := (mkF m 61 #[.val (.ref to), .val (.ref bf), .val (.int of), .val (.int ln), .val (.int a32), .val (.int l32), .val (.int (f32 + t32)), .val (.int t32)] [])) (fun _ k => XS.istore X18.here hx rfl (hb hby d3_59) rfl (l' := #[.val (.ref to), .val (.ref bf), .val (.int of), .val (.int ln), .val (.int a32), .val (.int l32), .val (.int (f32 + t32)), .val (.int t32)]) rfl k) ?_
        refine Go.back (f' := (mkF m 63 #[.val (.ref to), .val (.ref bf), .val (.int of), .val (.int ln), .val (.int a32), .val (.int l32), .val (.int (f32 + t32)), .val (.int t32)] [(.int l32)])) (fun _ k => XS.iload X18.here hx rfl (hb hby d3_61) rfl k) ?_
        refine Go.back (f' := (mkF m 65 #[.val (.ref to), .val (.ref bf), .val (.int of), .val (.int ln), .val (.int a32), .val (.int l32), .val (.int (f32 + t32)), .val (.int t32)] [(.int t32), (.int l32)])) (fun _ k => XS.iload X18.here hx rfl (hb hby d3_63) rfl k) ?_
        refine Go.back (f' := (mkF m 66 #[.val (.ref to), .val (.ref bf), .val (.int of), .val (.int ln), .val (.int a32), .val (.int l32), .val (.int (f32 + t32)), .val (.int t32)] [(.int (l32 - t32))])) (fun _ k => XS.isub X18.here hx rfl (hb hby d3_65) rfl k) ?_
        refine Go.back (f' := (mkF m 68 #[.val (.ref to), .val (.ref bf), .val (.int of), .val (.int ln), .val (.int a32), .val (.int (l32 - t32)), .val (.int (f32 + t32)), .val (.int t32)] [])) (fun _ k => XS.istore X18.here hx rfl (hb hby d3_66) rfl (l' := #[.val (.ref to), .val (.ref bf), .val (.int of), .val (.int ln), .val (.int a32), .val (.int (l32 - t32)), .val (.int (f32 + t32)), .val (.int t32)]) rfl k) ?_
        refine Go.back (f' := (mkF m 70 #[.val (.ref to), .val (.ref bf), .val (.int of), .val (.int ln), .val (.int a32), .val (.int (l32 - t32)), .val (.int (f32 + t32)), .val (.int t32)] [(.int a32)])) (fun _ k => XS.iload X18.here hx rfl (hb hby d3_68) rfl k) ?_
        refine Go.back (f' := (mkF m 72 #[.val (.ref to), .val (.ref bf), .val (.int of), .val (.int ln), .val (.int a32), .val (.int (l32 - t32)), .val (.int (f32 + t32)), .val (.int t32)] [(.int t32), (.int a32)])) (fun _ k => XS.iload X18.here hx rfl (hb hby d3_70) rfl k) ?_
        refine Go.back (f' := (mkF m 73 #[.val (.ref to), .val (.ref bf), .val (.int of), .val (.int ln), .val (.int a32), .val (.int (l32 - t32)), .val (.int (f32 + t32)), .val (.int t32)] [(.int (a32 + t32))])) (fun _ k => XS.iadd X18.here hx rfl (hb hby d3_72) rfl k) ?_
        refine Go.back (f' := (mkF m 74 #[.val (.ref to), .val (.ref bf), .val (.int of), .val (.int ln), .val (.int a32), .val (.int (l32 - t32)), .val (.int (f32 + t32)), .val (.int t32)] [(.ref to), (.int (a32 + t32))])) (fun _ k => XS.aloadN X18.here hx rfl (hb hby d3_73) rfl rfl k) ?_
        obtain ⟨T24, X24, e24, st24⟩ := getF X18 hx hZ hown (host := "") (Or.inl (hw _ (List.mem_of_getElem? (i := 11) rfl))) Via.refl e18 Fl_21 (g := (mkF m 74 #[.val (.ref to), .val (.ref bf), .val (.int of), .val (.int ln), .val (.int a32), .val (.int (l32 - t32)), .val (.int (f32 + t32)), .val (.int t32)] [(.ref to), (.int (a32 + t32))])) rfl rfl (hb hby d3_74)
        refine Go.back (f' := (mkF m 77 #[.val (.ref to), .val (.ref bf), .val (.int of), .val (.int ln), .val (.int a32), .val (.int (l32 - t32)), .val (.int (f32 + t32)), .val (.int t32)] [(.ref ring), (.int (a32 + t32))])) st24 ?_
        have lch : ((bs.drop (o + d)).take t).length = t := by simp; omega
        have Vn : VArr Z h18 ring .byte ((qs.take p ++ (bs.drop (o + d)).take t ++ qs.drop (p + ((bs.drop (o + d)).take t).length)).map Value.int) := V18.to (by rw [lch]; simp [List.map_take, List.map_drop])
        obtain ⟨ns, ens⟩ : ∃ ns, ns = qs.take p ++ (bs.drop (o + d)).take t ++ qs.drop (p + ((bs.drop (o + d)).take t).length) := ⟨_, rfl⟩
        have lns : ns.length = qs.length := by rw [ens]; simp; omega
        rw [← ens] at Vn
        refine Go.back (f' := (mkF m 78 #[.val (.ref to), .val (.ref bf), .val (.int of), .val (.int ln), .val (.int a32), .val (.int (l32 - t32)), .val (.int (f32 + t32)), .val (.int t32)] [(.int ((ns.map Value.int)).length.toInt32), (.int (a32 + t32))])) (Vn.lenS X24 hx hZ e24 (hb hby d3_77)) ?_
        rw [List.length_map, lns]
        show GoG _ _ _ _ _ (mkF m 78 #[.val (.ref to), .val (.ref bf), .val (.int of), .val (.int ln), .val (.int a32), .val (.int (l32 - t32)), .val (.int (f32 + t32)), .val (.int t32)] [(.int qs.length.toInt32), (.int (a32 + t32))])
        refine Go.back (f' := (mkF m 79 #[.val (.ref to), .val (.ref bf), .val (.int of), .val (.int ln), .val (.int a32), .val (.int (l32 - t32)), .val (.int (f32 + t32)), .val (.int t32)] [(.int ((a32 + t32) % qs.length.toInt32))])) (fun _ k => iremM X24 hx rfl (hb hby d3_78) rfl (nz32 hqc (by omega)) k) ?_
        refine Go.back (f' := (mkF m 81 #[.val (.ref to), .val (.ref bf), .val (.int of), .val (.int ln), .val (.int ((a32 + t32) % qs.length.toInt32)), .val (.int (l32 - t32)), .val (.int (f32 + t32)), .val (.int t32)] [])) (fun _ k => XS.istore X24.here hx rfl (hb hby d3_79) rfl (l' := #[.val (.ref to), .val (.ref bf), .val (.int of), .val (.int ln), .val (.int ((a32 + t32) % qs.length.toInt32)), .val (.int (l32 - t32)), .val (.int (f32 + t32)), .val (.int t32)]) rfl k) ?_
        refine Go.back (f' := (mkF m 20 #[.val (.ref to), .val (.ref bf), .val (.int of), .val (.int ln), .val (.int ((a32 + t32) % qs.length.toInt32)), .val (.int (l32 - t32)), .val (.int (f32 + t32)), .val (.int t32)] [])) (fun _ k => XS.goto X24.here hx rfl (pc0 := 81) (pc' := 20) rfl (hb hby d3_81) (by decide) (by decide) k) ?_
        exact ih (u - t) (by omega) (d + t) T24 _ _ ns ((a32 + t32) % qs.length.toInt32) (l32 - t32) (f32 + t32) _ X24 e24 Ex_19 Fl_20 Fl_21 Vn Ar_22 K_23 (by rw [lns, irem_nat (add_nat ha ht (by omega)) (n32 hqc), ← hp, Nat.mod_add_mod, Nat.add_assoc]) (sub_nat hl ht (by omega)) (by rw [add_nat hf ht (by omega), Nat.add_assoc]) (by omega) (by omega) (by rw [ens]; have q := hR.step (ch := (bs.drop (o + d)).take t) (by omega) (p := p) (by rw [← hp]; simp; congr 1; omega) (by rw [lch]; omega); rw [List.take_add, List.drop_drop]; simpa only [List.append_assoc] using q) (Or.inr ⟨_, rfl⟩)
      · refine Go.back (f' := (mkF m 84 #[.val (.ref to), .val (.ref bf), .val (.int of), .val (.int ln), .val (.int a32), .val (.int l32), .val (.int f32), s7] [])) (fun _ k => XS.ifYes X20.here hx rfl (pc0 := 22) (pc' := 84) rfl (hb hby d3_22) rfl ((if0 _ _).trans (flt h0).2.2.2) (by decide) (by decide) k) ?_
        have u0 : u = 0 := by have := mt (pos_nat hl).mpr h0; omega
        refine Go.back (f' := (mkF m 85 #[.val (.ref to), .val (.ref bf), .val (.int of), .val (.int ln), .val (.int a32), .val (.int l32), .val (.int f32), s7] [(.ref to)])) (fun _ k => XS.aloadN X20.here hx rfl (hb hby d3_84) rfl rfl k) ?_
        refine Go.back (f' := (mkF m 86 #[.val (.ref to), .val (.ref bf), .val (.int of), .val (.int ln), .val (.int a32), .val (.int l32), .val (.int f32), s7] [(.ref to), (.ref to)])) (fun _ k => XS.dup X20.here hx rfl (hb hby d3_85) rfl rfl k) ?_
        obtain ⟨T25, X25, e25, st25⟩ := getF X20 hx hZ hown (host := "") (Or.inl (hw _ (List.mem_of_getElem? (i := 18) rfl))) Via.refl e20 F120 (g := (mkF m 86 #[.val (.ref to), .val (.ref bf), .val (.int of), .val (.int ln), .val (.int a32), .val (.int l32), .val (.int f32), s7] [(.ref to), (.ref to)])) rfl rfl (hb hby d3_86)
        refine Go.back (f' := (mkF m 89 #[.val (.ref to), .val (.ref bf), .val (.int of), .val (.int ln), .val (.int a32), .val (.int l32), .val (.int f32), s7] [(.long w64), (.ref to)])) st25 ?_
        refine Go.back (f' := (mkF m 90 #[.val (.ref to), .val (.ref bf), .val (.int of), .val (.int ln), .val (.int a32), .val (.int l32), .val (.int f32), s7] [(.int ln), (.long w64), (.ref to)])) (fun _ k => XS.iloadN X25.here hx rfl (hb hby d3_89) rfl k) ?_
        refine Go.back (f' := (mkF m 91 #[.val (.ref to), .val (.ref bf), .val (.int of), .val (.int ln), .val (.int a32), .val (.int l32), .val (.int f32), s7] [(.long (ln.toInt64)), (.long w64), (.ref to)])) (fun _ k => XS.i2l X25.here hx rfl (hb hby d3_90) rfl k) ?_
        refine Go.back (f' := (mkF m 92 #[.val (.ref to), .val (.ref bf), .val (.int of), .val (.int ln), .val (.int a32), .val (.int l32), .val (.int f32), s7] [(.long (w64 + (ln.toInt64))), (.ref to)])) (fun _ k => XS.ladd X25.here hx rfl (hb hby d3_91) rfl k) ?_
        obtain ⟨T26, h26, X26, e26, W26, st26⟩ := putF X25 hx hZ hown (host := "") (Or.inl (hw _ (List.mem_of_getElem? (i := 18) rfl))) Via.refl e25 F120 Ex20 (Or.inl (hw _ (List.mem_of_getElem? (i := 19) rfl))) (hw _ (List.mem_of_getElem? (i := 3) rfl)) (ty := .long) (by decide) rfl rfl (g := (mkF m 92 #[.val (.ref to), .val (.ref bf), .val (.int of), .val (.int ln), .val (.int a32), .val (.int l32), .val (.int f32), s7] [(.long (w64 + (ln.toInt64))), (.ref to)])) rfl rfl (hb hby d3_92)
        refine Go.back (f' := (mkF m 95 #[.val (.ref to), .val (.ref bf), .val (.int of), .val (.int ln), .val (.int a32), .val (.int l32), .val (.int f32), s7] [])) st26 ?_
        have Ex_27 := Ex20.wr W26
        have Fl_28 := F120.same W26
        have Fl_29 := F220.other W26 (Or.inr (slot_ne (Or.inr (hw _ (List.mem_of_getElem? (i := 12) rfl))) (Or.inl (hw _ (List.mem_of_getElem? (i := 19) rfl))) (by decide) (t := (.array .byte)) (t' := .long) (by decide) (by decide)))
        have Ar_30 := A20.other W26 (Ne.symm ne_to_ring)
        have Ar_31 := B20.other W26 (Ne.symm ne_to_bf)
        have K_32 := K20.wr W26 (Or.inl (List.mem_of_getElem? (i := 0) rfl)) g_to
        exact Go.ret0 X26 hx hret hlk (hb hby d3_95) (by (try rw [e26]); exact ⟨rfl, K_32, qs, hql, Ex_27, Fl_28, Fl_29, Ar_30, (by rw [ladd_nat hW (by rw [c_i2l]; exact hn) (by omega)]; simp; omega), (by omega), (by omega), (by have : d = n := (by omega); rw [← this]; exact hR)⟩) (Nat.zero_le _) (Nat.zero_le _)
  exact lp n 0 T14 _ _ rs a32 ln of _ X14 e14 Ex F1 F2 A B K0 ha hn ho (by omega) rfl (by simpa using hR) (Or.inl rfl)

theorem own_out (rs : List Int32) (st fi z : Nat) (h1 : st + fi ≤ rs.length) (h2 : fi ≤ z) (h3 : z - fi ≤ rs.length := by omega) : ((((List.replicate z (Value.int 0)).take 0 ++ ((rs.map Value.int).drop st).take fi ++ (List.replicate z (Value.int 0)).drop (0 + fi)).take fi ++ ((rs.map Value.int).drop 0).take (z - fi) ++ ((List.replicate z (Value.int 0)).take 0 ++ ((rs.map Value.int).drop st).take fi ++ (List.replicate z (Value.int 0)).drop (0 + fi)).drop (fi + (z - fi)))) = ((rs.drop st).take fi ++ rs.take (z - fi)).map Value.int := by
  have l1 : (((rs.map Value.int).drop st).take fi).length = fi := by simp; omega
  rw [List.take_zero, List.nil_append, Nat.zero_add, List.drop_zero]
  have l2 : ((List.replicate z (Value.int 0)).drop fi).length = z - fi := by simp
  rw [List.map_append, List.map_take, List.map_drop, List.map_take]
  generalize ((rs.map Value.int).drop st).take fi = A at l1 ⊢
  generalize (List.replicate z (Value.int 0)).drop fi = R at l2 ⊢
  rw [List.take_left' l1, (List.drop_eq_nil_of_le (by rw [List.length_append, l1, l2]; omega) : (A ++ R).drop (fi + (z - fi)) = []), List.append_nil]

theorem ef_rmTb (m : MethodId) (x0 : Addr) : entryFrame m #[(.ref x0)] 5 = mkF m 0 #[.val (.ref x0), .unset, .unset, .unset, .unset] [] := by first | (simp [entryFrame, mkF, argsToLocals, Value.category]; done) | rfl
set_option maxRecDepth 65536 in
set_option maxHeartbeats 40000000 in
theorem rmTb (l : Launch) (Z : State) (a0 : Array Value) (hw : ∀ d ∈ tables_1, d.before a0 Z = true) (to ring : Addr) (w64 : Int64) (rs ss : List Int32) (n0 : Nat) (h0 : Heap) (Z0 : n0 ≤ h0.size) (R0 : OR Z h0 to ring w64 rs ss) (hs : ss.length ≤ 1000) :
    Met l Z (⟨"com/example/chore_scheduler/chorescheduler/exec/OutputTail", "toByteArray", "()[B"⟩ : MethodName) prog_3_method_3_code 5 (some (.array .byte)) ({ frames := 1, cells := 1, slots := 8, locals := 24 } : Room) #[(.ref to)] h0 (fun v h L => ∃ ob, v = some (.ref ob) ∧ Chg n0 h0 h [] L ∧ h0.size ≤ ob ∧ VArr Z h ob .byte ((ss.drop (ss.length - min ss.length rs.length)).map Value.int)) := by
  refine Met.intro (plainFor_of_name (by first | (simp [plainName, overriddenIn]; done) | decide +kernel)) ?_
  intro p e s m below meth c T0 hx hby hml hown hnm hret hlk hZ X0 e0
  refine Go.cast (ef_rmTb m to) ?_
  obtain ⟨Ex, F1, F2, A, hW, c1, c8, hR⟩ := R0
  have ne_to_ring : to ≠ ring := A.exa_ne Ex (hw _ (List.mem_of_getElem? (i := 3) rfl))
  have K0 : Chg n0 h0 h0 [] [] := Chg.refl Z0
  have hcl : rs.length < 2147483648 := by omega
  refine Go.back (f' := (mkF m 1 #[.val (.ref to), .unset, .unset, .unset, .unset] [(.ref to)])) (fun _ k => XS.aloadN X0.here hx rfl (hb hby d4_0) rfl rfl k) ?_
  obtain ⟨T33, X33, e33, st33⟩ := getF X0 hx hZ hown (host := "") (Or.inl (hw _ (List.mem_of_getElem? (i := 18) rfl))) Via.refl e0 F1 (g := (mkF m 1 #[.val (.ref to), .unset, .unset, .unset, .unset] [(.ref to)])) rfl rfl (hb hby d4_1)
  refine Go.back (f' := (mkF m 4 #[.val (.ref to), .unset, .unset, .unset, .unset] [(.long w64)])) st33 ?_
  refine Go.back (f' := (mkF m 5 #[.val (.ref to), .unset, .unset, .unset, .unset] [(.ref to), (.long w64)])) (fun _ k => XS.aloadN X33.here hx rfl (hb hby d4_4) rfl rfl k) ?_
  obtain ⟨T34, X34, e34, st34⟩ := getF X33 hx hZ hown (host := "") (Or.inl (hw _ (List.mem_of_getElem? (i := 11) rfl))) Via.refl e33 F2 (g := (mkF m 5 #[.val (.ref to), .unset, .unset, .unset, .unset] [(.ref to), (.long w64)])) rfl rfl (hb hby d4_5)
  refine Go.back (f' := (mkF m 8 #[.val (.ref to), .unset, .unset, .unset, .unset] [(.ref ring), (.long w64)])) st34 ?_
  refine Go.back (f' := (mkF m 9 #[.val (.ref to), .unset, .unset, .unset, .unset] [(.int ((rs.map Value.int)).length.toInt32), (.long w64)])) (A.lenS X34 hx hZ e34 (hb hby d4_8)) ?_
  rw [List.length_map]
  show GoG _ _ _ _ _ (mkF m 9 #[.val (.ref to), .unset, .unset, .unset, .unset] [(.int rs.length.toInt32), (.long w64)])
  refine Go.back (f' := (mkF m 10 #[.val (.ref to), .unset, .unset, .unset, .unset] [(.long (rs.length.toInt32.toInt64)), (.long w64)])) (fun _ k => XS.i2l X34.here hx rfl (hb hby d4_9) rfl k) ?_
  refine Go.callS X34 hx hZ hown (hw _ (List.mem_of_getElem? (i := 25) rfl)) (hw _ (List.mem_of_getElem? (i := 26) rfl)) (hw _ (List.mem_of_getElem? (i := 27) rfl)) (hw _ (List.mem_of_getElem? (i := 28) rfl)) (by decide) e34 (argsL := [(.long w64), (.long (rs.length.toInt32.toInt64))]) (rest := []) (rmMinJ l Z a0 hw w64 (rs.length.toInt32.toInt64) h0) (lenOf pd_1 rfl) rfl (by rw [hml]; rfl) (W := 0) (Nat.le_of_eq rfl) (hb hby d4_10) (by decide) (by decide) (by decide) (by decide) ?_
  intro v35 T35 L35 X35 hQ35
  obtain ⟨rfl, rfl, hh35⟩ := hQ35
  rw [List.append_nil] at X35
  have hz := nat_of (minJ_nat hW (l_of hcl)) (by omega)
  show GoG _ _ _ _ _ (mkF m 13 #[.val (.ref to), .unset, .unset, .unset, .unset] [(.long (if (rs.length.toInt32.toInt64) < w64 then (rs.length.toInt32.toInt64) else w64))])
  refine Go.back (f' := (mkF m 14 #[.val (.ref to), .unset, .unset, .unset, .unset] [(.int ((if (rs.length.toInt32.toInt64) < w64 then (rs.length.toInt32.toInt64) else w64).toInt32))])) (fun _ k => XS.l2i X35.here hx rfl (hb hby d4_13) rfl k) ?_
  generalize ez : ((if (rs.length.toInt32.toInt64) < w64 then (rs.length.toInt32.toInt64) else w64).toInt32) = z32
  rw [ez] at hz
  obtain ⟨z, ezz⟩ : ∃ z, z = min ss.length rs.length := ⟨_, rfl⟩
  rw [← ezz] at hz
  refine Go.back (f' := (mkF m 15 #[.val (.ref to), .val (.int z32), .unset, .unset, .unset] [])) (fun _ k => XS.istoreN X35.here hx rfl (hb hby d4_14) rfl (l' := #[.val (.ref to), .val (.int z32), .unset, .unset, .unset]) rfl k) ?_
  refine Go.back (f' := (mkF m 16 #[.val (.ref to), .val (.int z32), .unset, .unset, .unset] [(.ref to)])) (fun _ k => XS.aloadN X35.here hx rfl (hb hby d4_15) rfl rfl k) ?_
  obtain ⟨T36, X36, e36, st36⟩ := getF X35 hx hZ hown (host := "") (Or.inl (hw _ (List.mem_of_getElem? (i := 18) rfl))) Via.refl hh35 F1 (g := (mkF m 16 #[.val (.ref to), .val (.int z32), .unset, .unset, .unset] [(.ref to)])) rfl rfl (hb hby d4_16)
  refine Go.back (f' := (mkF m 19 #[.val (.ref to), .val (.int z32), .unset, .unset, .unset] [(.long w64)])) st36 ?_
  refine Go.back (f' := (mkF m 20 #[.val (.ref to), .val (.int z32), .unset, .unset, .unset] [(.int z32), (.long w64)])) (fun _ k => XS.iloadN X36.here hx rfl (hb hby d4_19) rfl k) ?_
  refine Go.back (f' := (mkF m 21 #[.val (.ref to), .val (.int z32), .unset, .unset, .unset] [(.long (z32.toInt64)), (.long w64)])) (fun _ k => XS.i2l X36.here hx rfl (hb hby d4_20) rfl k) ?_
  refine Go.back (f' := (mkF m 22 #[.val (.ref to), .val (.int z32), .unset, .unset, .unset] [(.long (w64 - (z32.toInt64)))])) (fun _ k => XS.lsub X36.here hx rfl (hb hby d4_21) rfl k) ?_
  refine Go.back (f' := (mkF m 23 #[.val (.ref to), .val (.int z32), .unset, .unset, .unset] [(.ref to), (.long (w64 - (z32.toInt64)))])) (fun _ k => XS.aloadN X36.here hx rfl (hb hby d4_22) rfl rfl k) ?_
  obtain ⟨T37, X37, e37, st37⟩ := getF X36 hx hZ hown (host := "") (Or.inl (hw _ (List.mem_of_getElem? (i := 11) rfl))) Via.refl e36 F2 (g := (mkF m 23 #[.val (.ref to), .val (.int z32), .unset, .unset, .unset] [(.ref to), (.long (w64 - (z32.toInt64)))])) rfl rfl (hb hby d4_23)
  refine Go.back (f' := (mkF m 26 #[.val (.ref to), .val (.int z32), .unset, .unset, .unset] [(.ref ring), (.long (w64 - (z32.toInt64)))])) st37 ?_
  refine Go.back (f' := (mkF m 27 #[.val (.ref to), .val (.int z32), .unset, .unset, .unset] [(.int ((rs.map Value.int)).length.toInt32), (.long (w64 - (z32.toInt64)))])) (A.lenS X37 hx hZ e37 (hb hby d4_26)) ?_
  rw [List.length_map]
  show GoG _ _ _ _ _ (mkF m 27 #[.val (.ref to), .val (.int z32), .unset, .unset, .unset] [(.int rs.length.toInt32), (.long (w64 - (z32.toInt64)))])
  refine Go.back (f' := (mkF m 28 #[.val (.ref to), .val (.int z32), .unset, .unset, .unset] [(.long (rs.length.toInt32.toInt64)), (.long (w64 - (z32.toInt64)))])) (fun _ k => XS.i2l X37.here hx rfl (hb hby d4_27) rfl k) ?_
  refine Go.back (f' := (mkF m 29 #[.val (.ref to), .val (.int z32), .unset, .unset, .unset] [(.long ((w64 - (z32.toInt64)) - ((w64 - (z32.toInt64)) / (rs.length.toInt32.toInt64)) * (rs.length.toInt32.toInt64)))])) (fun _ k => XS.lrem X37.here hx rfl (hb hby d4_28) rfl (nz64 hcl c1) k) ?_
  refine Go.back (f' := (mkF m 30 #[.val (.ref to), .val (.int z32), .unset, .unset, .unset] [(.int (((w64 - (z32.toInt64)) - ((w64 - (z32.toInt64)) / (rs.length.toInt32.toInt64)) * (rs.length.toInt32.toInt64)).toInt32))])) (fun _ k => XS.l2i X37.here hx rfl (hb hby d4_29) rfl k) ?_
  have hst := nat_of (lrem_nat (lsub_nat hW (show z32.toInt64.toInt = (z : Int) by rw [c_i2l]; exact hz) (by omega)) (l_of hcl)) (by have := Nat.mod_lt (ss.length - z) c1; omega)
  generalize et : (((w64 - (z32.toInt64)) - ((w64 - (z32.toInt64)) / (rs.length.toInt32.toInt64)) * (rs.length.toInt32.toInt64)).toInt32) = t32
  rw [et] at hst
  obtain ⟨st, est⟩ : ∃ st, st = (ss.length - z) % rs.length := ⟨_, rfl⟩
  have hsl : st < rs.length := by rw [est]; exact Nat.mod_lt _ c1
  rw [← est] at hst
  refine Go.back (f' := (mkF m 31 #[.val (.ref to), .val (.int z32), .val (.int t32), .unset, .unset] [])) (fun _ k => XS.istoreN X37.here hx rfl (hb hby d4_30) rfl (l' := #[.val (.ref to), .val (.int z32), .val (.int t32), .unset, .unset]) rfl k) ?_
  refine Go.back (f' := (mkF m 32 #[.val (.ref to), .val (.int z32), .val (.int t32), .unset, .unset] [(.int z32)])) (fun _ k => XS.iloadN X37.here hx rfl (hb hby d4_31) rfl k) ?_
  refine Go.newA X37 hx hZ (hw _ (List.mem_of_getElem? (i := 0) rfl)) e37 (hb hby d4_32) (i := z) hz (cap := 8) (by omega) (by decide) (by decide) (by decide) ?_
  intro T38 h38 ob q38 X38 e38 E38 V38
  have V38 : VArr Z h38 ob .byte (List.replicate z (.int 0)) := V38
  have ne_ring_ob : ring ≠ ob := lt_ne q38 A.lt
  have ne_to_ob : to ≠ ob := lt_ne q38 Ex.lt
  have sz_ob := K0.at q38
  have g_ob := K0.ge sz_ob
  have Ex_39 := Ex.ext E38
  have Fl_40 := F1.ext E38
  have Fl_41 := F2.ext E38
  have Ar_42 := A.ext E38
  have K_43 := K0.ext E38
  show GoG _ _ _ _ _ (mkF m 34 #[.val (.ref to), .val (.int z32), .val (.int t32), .unset, .unset] [(.ref ob)])
  refine Go.back (f' := (mkF m 35 #[.val (.ref to), .val (.int z32), .val (.int t32), .val (.ref ob), .unset] [])) (fun _ k => XS.astoreN X38.here hx rfl (hb hby d4_34) rfl rfl (l' := #[.val (.ref to), .val (.int z32), .val (.int t32), .val (.ref ob), .unset]) rfl k) ?_
  refine Go.back (f' := (mkF m 36 #[.val (.ref to), .val (.int z32), .val (.int t32), .val (.ref ob), .unset] [(.int z32)])) (fun _ k => XS.iloadN X38.here hx rfl (hb hby d4_35) rfl k) ?_
  refine Go.back (f' := (mkF m 37 #[.val (.ref to), .val (.int z32), .val (.int t32), .val (.ref ob), .unset] [(.ref to), (.int z32)])) (fun _ k => XS.aloadN X38.here hx rfl (hb hby d4_36) rfl rfl k) ?_
  obtain ⟨T44, X44, e44, st44⟩ := getF X38 hx hZ hown (host := "") (Or.inl (hw _ (List.mem_of_getElem? (i := 11) rfl))) Via.refl e38 Fl_41 (g := (mkF m 37 #[.val (.ref to), .val (.int z32), .val (.int t32), .val (.ref ob), .unset] [(.ref to), (.int z32)])) rfl rfl (hb hby d4_37)
  refine Go.back (f' := (mkF m 40 #[.val (.ref to), .val (.int z32), .val (.int t32), .val (.ref ob), .unset] [(.ref ring), (.int z32)])) st44 ?_
  refine Go.back (f' := (mkF m 41 #[.val (.ref to), .val (.int z32), .val (.int t32), .val (.ref ob), .unset] [(.int ((rs.map Value.int)).length.toInt32), (.int z32)])) (Ar_42.lenS X44 hx hZ e44 (hb hby d4_40)) ?_
  rw [List.length_map]
  show GoG _ _ _ _ _ (mkF m 41 #[.val (.ref to), .val (.int z32), .val (.int t32), .val (.ref ob), .unset] [(.int rs.length.toInt32), (.int z32)])
  refine Go.back (f' := (mkF m 42 #[.val (.ref to), .val (.int z32), .val (.int t32), .val (.ref ob), .unset] [(.int t32), (.int rs.length.toInt32), (.int z32)])) (fun _ k => XS.iloadN X44.here hx rfl (hb hby d4_41) rfl k) ?_
  refine Go.back (f' := (mkF m 43 #[.val (.ref to), .val (.int z32), .val (.int t32), .val (.ref ob), .unset] [(.int (rs.length.toInt32 - t32)), (.int z32)])) (fun _ k => XS.isub X44.here hx rfl (hb hby d4_42) rfl k) ?_
  refine Go.callS X44 hx hZ hown (hw _ (List.mem_of_getElem? (i := 29) rfl)) (hw _ (List.mem_of_getElem? (i := 30) rfl)) (hw _ (List.mem_of_getElem? (i := 27) rfl)) (hw _ (List.mem_of_getElem? (i := 31) rfl)) (by decide) e44 (argsL := [(.int z32), (.int (rs.length.toInt32 - t32))]) (rest := []) (rmMin l Z a0 hw z32 (rs.length.toInt32 - t32) h38) (lenOf pd_0 rfl) rfl (by rw [hml]; rfl) (W := 0) (Nat.le_of_eq rfl) (hb hby d4_43) (by decide) (by decide) (by decide) (by decide) ?_
  intro v45 T45 L45 X45 hQ45
  obtain ⟨rfl, rfl, hh45⟩ := hQ45
  rw [List.append_nil] at X45
  have hfi := min_nat hz (sub_nat (n32 hcl) hst (by omega))
  generalize (if (rs.length.toInt32 - t32) < z32 then (rs.length.toInt32 - t32) else z32) = f32 at hfi ⊢
  obtain ⟨fi, efi⟩ : ∃ fi, fi = min z (rs.length - st) := ⟨_, rfl⟩
  rw [← efi] at hfi
  show GoG _ _ _ _ _ (mkF m 46 #[.val (.ref to), .val (.int z32), .val (.int t32), .val (.ref ob), .unset] [(.int f32)])
  refine Go.back (f' := (mkF m 48 #[.val (.ref to), .val (.int z32), .val (.int t32), .val (.ref ob), .val (.int f32)] [])) (fun _ k => XS.istore X45.here hx rfl (hb hby d4_46) rfl (l' := #[.val (.ref to), .val (.int z32), .val (.int t32), .val (.ref ob), .val (.int f32)]) rfl k) ?_
  refine Go.back (f' := (mkF m 49 #[.val (.ref to), .val (.int z32), .val (.int t32), .val (.ref ob), .val (.int f32)] [(.ref to)])) (fun _ k => XS.aloadN X45.here hx rfl (hb hby d4_48) rfl rfl k) ?_
  obtain ⟨T46, X46, e46, st46⟩ := getF X45 hx hZ hown (host := "") (Or.inl (hw _ (List.mem_of_getElem? (i := 11) rfl))) Via.refl hh45 Fl_41 (g := (mkF m 49 #[.val (.ref to), .val (.int z32), .val (.int t32), .val (.ref ob), .val (.int f32)] [(.ref to)])) rfl rfl (hb hby d4_49)
  refine Go.back (f' := (mkF m 52 #[.val (.ref to), .val (.int z32), .val (.int t32), .val (.ref ob), .val (.int f32)] [(.ref ring)])) st46 ?_
  refine Go.back (f' := (mkF m 53 #[.val (.ref to), .val (.int z32), .val (.int t32), .val (.ref ob), .val (.int f32)] [(.int t32), (.ref ring)])) (fun _ k => XS.iloadN X46.here hx rfl (hb hby d4_52) rfl k) ?_
  refine Go.back (f' := (mkF m 54 #[.val (.ref to), .val (.int z32), .val (.int t32), .val (.ref ob), .val (.int f32)] [(.ref ob), (.int t32), (.ref ring)])) (fun _ k => XS.aloadN X46.here hx rfl (hb hby d4_53) rfl rfl k) ?_
  refine Go.back (f' := (mkF m 55 #[.val (.ref to), .val (.int z32), .val (.int t32), .val (.ref ob), .val (.int f32)] [(.int (0 : Int32)), (.ref ob), (.int t32), (.ref ring)])) (fun _ k => XS.iconst X46.here hx rfl (hb hby d4_54) k) ?_
  refine Go.back (f' := (mkF m 57 #[.val (.ref to), .val (.int z32), .val (.int t32), .val (.ref ob), .val (.int f32)] [(.int f32), (.int (0 : Int32)), (.ref ob), (.int t32), (.ref ring)])) (fun _ k => XS.iload X46.here hx rfl (hb hby d4_55) rfl k) ?_
  refine Go.cpy X46 hx hZ hown (hw _ (List.mem_of_getElem? (i := 32) rfl)) (hw _ (List.mem_of_getElem? (i := 35) rfl)) (hw _ (List.mem_of_getElem? (i := 33) rfl)) (hw _ (List.mem_of_getElem? (i := 34) rfl)) e46 Ar_42 V38 rfl (i := st) hst (j' := 0) rfl (n := fi) hfi (by rw [List.length_map]; omega) (by simp; omega) K_43.fr g_ob (by rw [hml]; rfl) (hb hby d4_57) (by decide) (W := 0) (Nat.le_of_eq rfl) (by decide) ?_
  intro T47 h47 L47 X47 e47 N47 Kc47 V47
  have Ex_48 := Ex_39.keep Kc47
  have Fl_49 := Fl_40.keep Kc47 (ninS ne_to_ob nin0)
  have Fl_50 := Fl_41.keep Kc47 (ninS ne_to_ob nin0)
  have Ar_51 := Ar_42.keep Kc47 (ninS ne_ring_ob nin0)
  have K_52 := K_43.cpy Kc47 N47 (Or.inr sz_ob)
  show GoG _ _ _ _ _ (mkF m 60 #[.val (.ref to), .val (.int z32), .val (.int t32), .val (.ref ob), .val (.int f32)] [])
  refine Go.back (f' := (mkF m 61 #[.val (.ref to), .val (.int z32), .val (.int t32), .val (.ref ob), .val (.int f32)] [(.ref to)])) (fun _ k => XS.aloadN X47.here hx rfl (hb hby d4_60) rfl rfl k) ?_
  obtain ⟨T53, X53, e53, st53⟩ := getF X47 hx hZ hown (host := "") (Or.inl (hw _ (List.mem_of_getElem? (i := 11) rfl))) Via.refl e47 Fl_50 (g := (mkF m 61 #[.val (.ref to), .val (.int z32), .val (.int t32), .val (.ref ob), .val (.int f32)] [(.ref to)])) rfl rfl (hb hby d4_61)
  refine Go.back (f' := (mkF m 64 #[.val (.ref to), .val (.int z32), .val (.int t32), .val (.ref ob), .val (.int f32)] [(.ref ring)])) st53 ?_
  refine Go.back (f' := (mkF m 65 #[.val (.ref to), .val (.int z32), .val (.int t32), .val (.ref ob), .val (.int f32)] [(.int (0 : Int32)), (.ref ring)])) (fun _ k => XS.iconst X53.here hx rfl (hb hby d4_64) k) ?_
  refine Go.back (f' := (mkF m 66 #[.val (.ref to), .val (.int z32), .val (.int t32), .val (.ref ob), .val (.int f32)] [(.ref ob), (.int (0 : Int32)), (.ref ring)])) (fun _ k => XS.aloadN X53.here hx rfl (hb hby d4_65) rfl rfl k) ?_
  refine Go.back (f' := (mkF m 68 #[.val (.ref to), .val (.int z32), .val (.int t32), .val (.ref ob), .val (.int f32)] [(.int f32), (.ref ob), (.int (0 : Int32)), (.ref ring)])) (fun _ k => XS.iload X53.here hx rfl (hb hby d4_66) rfl k) ?_
  refine Go.back (f' := (mkF m 69 #[.val (.ref to), .val (.int z32), .val (.int t32), .val (.ref ob), .val (.int f32)] [(.int z32), (.int f32), (.ref ob), (.int (0 : Int32)), (.ref ring)])) (fun _ k => XS.iloadN X53.here hx rfl (hb hby d4_68) rfl k) ?_
  refine Go.back (f' := (mkF m 71 #[.val (.ref to), .val (.int z32), .val (.int t32), .val (.ref ob), .val (.int f32)] [(.int f32), (.int z32), (.int f32), (.ref ob), (.int (0 : Int32)), (.ref ring)])) (fun _ k => XS.iload X53.here hx rfl (hb hby d4_69) rfl k) ?_
  refine Go.back (f' := (mkF m 72 #[.val (.ref to), .val (.int z32), .val (.int t32), .val (.ref ob), .val (.int f32)] [(.int (z32 - f32)), (.int f32), (.ref ob), (.int (0 : Int32)), (.ref ring)])) (fun _ k => XS.isub X53.here hx rfl (hb hby d4_71) rfl k) ?_
  refine Go.cpy X53 hx hZ hown (hw _ (List.mem_of_getElem? (i := 32) rfl)) (hw _ (List.mem_of_getElem? (i := 35) rfl)) (hw _ (List.mem_of_getElem? (i := 33) rfl)) (hw _ (List.mem_of_getElem? (i := 34) rfl)) e53 Ar_51 V47 rfl (i := 0) rfl (j' := fi) hfi (n := (z - fi)) (sub_nat hz hfi (by omega)) (by rw [List.length_map]; omega) (by simp; omega) K_52.fr g_ob (by rw [hml]; rfl) (hb hby d4_72) (by decide) (W := 0) (Nat.le_of_eq rfl) (by decide) ?_
  intro T54 h54 L54 X54 e54 N54 Kc54 V54
  have Ex_55 := Ex_48.keep Kc54
  have Fl_56 := Fl_49.keep Kc54 (ninS ne_to_ob nin0)
  have Fl_57 := Fl_50.keep Kc54 (ninS ne_to_ob nin0)
  have Ar_58 := Ar_51.keep Kc54 (ninS ne_ring_ob nin0)
  have K_59 := K_52.cpy Kc54 N54 (Or.inr sz_ob)
  show GoG _ _ _ _ _ (mkF m 75 #[.val (.ref to), .val (.int z32), .val (.int t32), .val (.ref ob), .val (.int f32)] [])
  refine Go.back (f' := (mkF m 76 #[.val (.ref to), .val (.int z32), .val (.int t32), .val (.ref ob), .val (.int f32)] [(.ref ob)])) (fun _ k => XS.aloadN X54.here hx rfl (hb hby d4_75) rfl rfl k) ?_
  exact Go.retA X54 hx hret hlk (hb hby d4_76) rfl rfl (by (try rw [e54]); exact ⟨ob, rfl, K_59, sz_ob, V54.to (by rw [ezz] at *; rw [← hR.out c1 rfl est (by rw [← efi])]; exact own_out rs st fi _ (by omega) (by omega))⟩) (by decide) (by decide)

theorem OR.keep0 {Z : State} {h h' : Heap} {to ring : Addr} {w64 : Int64} {rs ss : List Int32} (R : OR Z h to ring w64 rs ss) (K : Keep h h' []) : OR Z h' to ring w64 rs ss := by
  obtain ⟨a1, a2, a3, a4, r⟩ := R; exact ⟨a1.keep K, a2.keep K nin0, a3.keep K nin0, a4.keep K nin0, r⟩
theorem own_at {vs : List Int32} {k : Nat} (q : k < vs.length) : (vs.map Value.int)[k]? = some (.int (vs.getD k 0)) := by
  rw [List.getElem?_map, List.getElem?_eq_getElem q, List.getD_eq_getElem?_getD, List.getElem?_eq_getElem q]; rfl
theorem own_eqD {a b : List Int32} {i j : Nat} (q : i < a.length) (e : a[i]? = b[j]?) : j < b.length ∧ a.getD i 0 = b.getD j 0 := by
  have h : j < b.length := by
    apply Decidable.byContradiction; intro r
    rw [List.getElem?_eq_getElem q, List.getElem?_eq_none (by omega)] at e; cases e
  exact ⟨h, by rw [List.getD_eq_getElem?_getD, List.getD_eq_getElem?_getD, e]⟩
theorem own_ushr (x : Int32) (m k : Nat) (q : Int32) (hk : q.toBitVec.toNat % 32 = k) : ∃ i : Nat, (((x.toUInt32 >>> (q &&& 31).toUInt32).toInt32) &&& (2147483647 : Int32)).toInt = i := by
  have h : ((((x.toUInt32 >>> (q &&& 31).toUInt32).toInt32)) &&& (2147483647 : Int32)).toInt = ((x.toUInt32 >>> (q &&& 31).toUInt32).toInt32).toInt % (2 ^ 31 : Nat) := c_mask _ 2147483647 31 (by decide) (by decide)
  exact ⟨_, by rw [h]; exact (Int.toNat_of_nonneg (Int.emod_nonneg _ (by decide))).symm⟩
theorem own_m (a m : Int32) (k : Nat) (hk : k ≤ 31) (hm : m.toBitVec.toNat = 2 ^ k - 1) : ∃ i : Nat, (a &&& m).toInt = i ∧ i < 2 ^ k := by
  have q := c_mask a m k hk hm
  have p : (0 : Int) < ((2 ^ k : Nat) : Int) := by have := Nat.pow_pos (n := k) (show 0 < 2 by omega); omega
  have a1 := Int.emod_nonneg a.toInt (Int.ne_of_gt p)
  have a2 := Int.emod_lt_of_pos a.toInt p
  exact ⟨(a &&& m).toInt.toNat, by omega, by omega⟩

/-- what the stream holds at k: e -/
def HSP (sl : List Int32) (f1 n1 f2 n2 f3 k : Nat) (e : Int32) : Prop := (k < n1 → sl[f1 + k]? = some e) ∧ (¬ k < n1 → k - n1 < n2 → sl[f2 + (k - n1)]? = some e) ∧ (¬ k < n1 → ¬ k - n1 < n2 → sl[f3 + (k - n1) - n2]? = some e)
theorem own_hs3 {sl : List Int32} {f1 n1 f2 n2 f3 n3 c : Nat} (h1 : f1 + n1 ≤ sl.length) (h2 : f2 + n2 ≤ sl.length) {ss gs : List Int32} (hs : ss = (sl.drop f1).take n1 ++ (sl.drop f2).take n2 ++ (sl.drop f3).take n3) (hg : gs = ss.drop (ss.length - min ss.length c)) : gs.length = min ss.length c ∧ ∀ k, k < gs.length → HSP sl f1 n1 f2 n2 f3 (ss.length - gs.length + k) (gs.getD k 0) := by
  have gl : gs.length = min ss.length c := by rw [hg]; simp; omega
  have l1 : ((sl.drop f1).take n1).length = n1 := by simp; omega
  have l2 : ((sl.drop f2).take n2).length = n2 := by simp; omega
  refine ⟨gl, fun k hk => ?_⟩
  have e : some (gs.getD k 0) = ss[ss.length - gs.length + k]? := by
    rw [List.getD_eq_getElem?_getD]
    have : gs[k]? = ss[ss.length - gs.length + k]? := by rw [gl, hg, List.getElem?_drop]
    rw [← this, List.getElem?_eq_getElem hk]; rfl
  have lt : ss.length - gs.length + k < ss.length := by omega
  generalize ss.length - gs.length + k = i at lt e
  rw [hs] at lt e
  rw [List.length_append, List.length_append, l1, l2] at lt
  have l3 : ((sl.drop f3).take n3).length ≤ n3 := by simp; omega
  refine ⟨fun q => ?_, fun q r => ?_, fun q r => ?_⟩
  · rw [e, List.append_assoc, List.getElem?_append_left (by omega), List.getElem?_take_of_lt q, List.getElem?_drop]
  · rw [e, List.getElem?_append_left (by rw [List.length_append]; omega), List.getElem?_append_right (by omega), l1, List.getElem?_take_of_lt r, List.getElem?_drop]
  · rw [e, List.getElem?_append_right (by rw [List.length_append]; omega), List.length_append, l1, l2, List.getElem?_take_of_lt (by omega), List.getElem?_drop]
    congr 1; omega
theorem own_idx {vs : List Int32} {k : Nat} {e : Int32} (q : vs[k]? = some e) : (vs.map Value.int)[k]? = some (.int e) := by rw [List.getElem?_map, q]; rfl
theorem own_lt {vs : List Int32} {k : Nat} {e : Int32} (q : vs[k]? = some e) : k < vs.length := (List.getElem?_eq_some_iff.mp q).1
theorem own_nb {e : Int32} (q : fits .byte (.int e) = true) : nar .byte e = e := by
  obtain ⟨a, b⟩ := rng_byte q
  rw [Int32.lt_iff_toInt_lt] at a b
  have e1 : (-128 : Int32).toInt = -128 := rfl
  have e2 : (127 : Int32).toInt = 127 := rfl
  have c := c_i2b e
  exact Int32.toInt_inj.mp (show e.toInt8.toInt32.toInt = e.toInt by omega)

theorem ef_rmSt (m : MethodId) (x0 : Addr) (x1 : Int32) (x2 : Int32) (x3 : Int32) (x4 : Int32) (x5 : Int32) (x6 : Int32) : entryFrame m #[(.ref x0), (.int x1), (.int x2), (.int x3), (.int x4), (.int x5), (.int x6)] 8 = mkF m 0 #[.val (.ref x0), .val (.int x1), .val (.int x2), .val (.int x3), .val (.int x4), .val (.int x5), .val (.int x6), .unset] [] := by first | (simp [entryFrame, mkF, argsToLocals, Value.category]; done) | rfl
set_option maxRecDepth 65536 in
set_option maxHeartbeats 40000000 in
theorem rmSt (l : Launch) (Z : State) (a0 : Array Value) (hw : ∀ d ∈ tables_1, d.before a0 Z = true) (so : Addr) (k32 : Int32) (o1 l1 o2 l2 o3 : Int32) (sl : List Int32) (k f1 n1 f2 n2 f3 : Nat) (ee : Int32) (h0 : Heap) (A : VArr Z h0 so .byte (sl.map Value.int)) (hk : k32.toInt = k) (hk9 : k ≤ 1000) (ho1 : o1.toInt = f1) (hl1 : l1.toInt = n1) (ho2 : o2.toInt = f2) (hl2 : l2.toInt = n2) (ho3 : o3.toInt = f3) (hs8 : sl.length ≤ 8) (hf1 : f1 ≤ 8) (hf2 : f2 ≤ 8) (hf3 : f3 ≤ 8) (HS : HSP sl f1 n1 f2 n2 f3 k ee) :
    Met l Z (⟨"com/example/chore_scheduler/chorescheduler/exec/OutputTailToByteArrayPinLaw", "streamAt", "([BIIIIII)B"⟩ : MethodName) method_5_code 8 (some .byte) ({ frames := 0, cells := 0, slots := 0, locals := 0 } : Room) #[(.ref so), (.int k32), (.int o1), (.int l1), (.int o2), (.int l2), (.int o3)] h0 (fun v h L => v = some (.int ee) ∧ L = [] ∧ h = h0) := by
  refine Met.intro (plainFor_of_name (by first | (simp [plainName, overriddenIn]; done) | decide +kernel)) ?_
  intro p e s m below meth c T0 hx hby hml hown hnm hret hlk hZ X0 e0
  refine Go.cast (ef_rmSt m so k32 o1 l1 o2 l2 o3) ?_
  obtain ⟨H1, H2, H3⟩ := HS
  refine Go.back (f' := (mkF m 1 #[.val (.ref so), .val (.int k32), .val (.int o1), .val (.int l1), .val (.int o2), .val (.int l2), .val (.int o3), .unset] [(.int k32)])) (fun _ k => XS.iloadN X0.here hx rfl (hb hby d9_0) rfl k) ?_
  refine Go.back (f' := (mkF m 2 #[.val (.ref so), .val (.int k32), .val (.int o1), .val (.int l1), .val (.int o2), .val (.int l2), .val (.int o3), .unset] [(.int l1), (.int k32)])) (fun _ k => XS.iloadN X0.here hx rfl (hb hby d9_1) rfl k) ?_
  by_cases h1 : k32 < l1
  · refine Go.back (f' := (mkF m 5 #[.val (.ref so), .val (.int k32), .val (.int o1), .val (.int l1), .val (.int o2), .val (.int l2), .val (.int o3), .unset] [])) (fun _ k => XS.icmpNo X0.here hx rfl (hb hby d9_2) rfl (tlt h1).2.1 k) ?_
    have q := H1 ((lt_nat hk hl1).mp h1)
    refine Go.back (f' := (mkF m 6 #[.val (.ref so), .val (.int k32), .val (.int o1), .val (.int l1), .val (.int o2), .val (.int l2), .val (.int o3), .unset] [(.ref so)])) (fun _ k => XS.aloadN X0.here hx rfl (hb hby d9_5) rfl rfl k) ?_
    refine Go.back (f' := (mkF m 7 #[.val (.ref so), .val (.int k32), .val (.int o1), .val (.int l1), .val (.int o2), .val (.int l2), .val (.int o3), .unset] [(.int o1), (.ref so)])) (fun _ k => XS.iloadN X0.here hx rfl (hb hby d9_6) rfl k) ?_
    refine Go.back (f' := (mkF m 8 #[.val (.ref so), .val (.int k32), .val (.int o1), .val (.int l1), .val (.int o2), .val (.int l2), .val (.int o3), .unset] [(.int k32), (.int o1), (.ref so)])) (fun _ k => XS.iloadN X0.here hx rfl (hb hby d9_7) rfl k) ?_
    refine Go.back (f' := (mkF m 9 #[.val (.ref so), .val (.int k32), .val (.int o1), .val (.int l1), .val (.int o2), .val (.int l2), .val (.int o3), .unset] [(.int (o1 + k32)), (.ref so)])) (fun _ k => XS.iadd X0.here hx rfl (hb hby d9_8) rfl k) ?_
    refine Go.back (f' := (mkF m 10 #[.val (.ref so), .val (.int k32), .val (.int o1), .val (.int l1), .val (.int o2), .val (.int l2), .val (.int o3), .unset] [(.int ee)])) (A.ldB X0 hx hZ e0 (hb hby d9_9) (i := (f1 + k)) (add_nat ho1 hk (by omega)) (own_idx q)) ?_
    exact Go.retN X0 hx (t := .byte) hret (by simp) (own_nb (A.fit (own_idx q))) hlk (hb hby d9_10) (by (try rw [e0]); exact ⟨rfl, rfl, rfl⟩) (Nat.zero_le _) (Nat.zero_le _)
  · refine Go.back (f' := (mkF m 11 #[.val (.ref so), .val (.int k32), .val (.int o1), .val (.int l1), .val (.int o2), .val (.int l2), .val (.int o3), .unset] [])) (fun _ k => XS.icmpYes X0.here hx rfl (pc0 := 2) (pc' := 11) rfl (hb hby d9_2) rfl (flt h1).2.1 (by decide) (by decide) k) ?_
    have j1 : ¬ k < n1 := fun q => h1 ((lt_nat hk hl1).mpr q)
    have hd := sub_nat hk hl1 (by omega)
    refine Go.back (f' := (mkF m 12 #[.val (.ref so), .val (.int k32), .val (.int o1), .val (.int l1), .val (.int o2), .val (.int l2), .val (.int o3), .unset] [(.int k32)])) (fun _ k => XS.iloadN X0.here hx rfl (hb hby d9_11) rfl k) ?_
    refine Go.back (f' := (mkF m 13 #[.val (.ref so), .val (.int k32), .val (.int o1), .val (.int l1), .val (.int o2), .val (.int l2), .val (.int o3), .unset] [(.int l1), (.int k32)])) (fun _ k => XS.iloadN X0.here hx rfl (hb hby d9_12) rfl k) ?_
    refine Go.back (f' := (mkF m 14 #[.val (.ref so), .val (.int k32), .val (.int o1), .val (.int l1), .val (.int o2), .val (.int l2), .val (.int o3), .unset] [(.int (k32 - l1))])) (fun _ k => XS.isub X0.here hx rfl (hb hby d9_13) rfl k) ?_
    generalize ed : (k32 - l1) = d32
    rw [ed] at hd
    refine Go.back (f' := (mkF m 16 #[.val (.ref so), .val (.int k32), .val (.int o1), .val (.int l1), .val (.int o2), .val (.int l2), .val (.int o3), .val (.int d32)] [])) (fun _ k => XS.istore X0.here hx rfl (hb hby d9_14) rfl (l' := #[.val (.ref so), .val (.int k32), .val (.int o1), .val (.int l1), .val (.int o2), .val (.int l2), .val (.int o3), .val (.int d32)]) rfl k) ?_
    refine Go.back (f' := (mkF m 18 #[.val (.ref so), .val (.int k32), .val (.int o1), .val (.int l1), .val (.int o2), .val (.int l2), .val (.int o3), .val (.int d32)] [(.int d32)])) (fun _ k => XS.iload X0.here hx rfl (hb hby d9_16) rfl k) ?_
    refine Go.back (f' := (mkF m 20 #[.val (.ref so), .val (.int k32), .val (.int o1), .val (.int l1), .val (.int o2), .val (.int l2), .val (.int o3), .val (.int d32)] [(.int l2), (.int d32)])) (fun _ k => XS.iload X0.here hx rfl (hb hby d9_18) rfl k) ?_
    by_cases h2 : d32 < l2
    · refine Go.back (f' := (mkF m 23 #[.val (.ref so), .val (.int k32), .val (.int o1), .val (.int l1), .val (.int o2), .val (.int l2), .val (.int o3), .val (.int d32)] [])) (fun _ k => XS.icmpNo X0.here hx rfl (hb hby d9_20) rfl (tlt h2).2.1 k) ?_
      have q := H2 j1 ((lt_nat hd hl2).mp h2)
      refine Go.back (f' := (mkF m 24 #[.val (.ref so), .val (.int k32), .val (.int o1), .val (.int l1), .val (.int o2), .val (.int l2), .val (.int o3), .val (.int d32)] [(.ref so)])) (fun _ k => XS.aloadN X0.here hx rfl (hb hby d9_23) rfl rfl k) ?_
      refine Go.back (f' := (mkF m 26 #[.val (.ref so), .val (.int k32), .val (.int o1), .val (.int l1), .val (.int o2), .val (.int l2), .val (.int o3), .val (.int d32)] [(.int o2), (.ref so)])) (fun _ k => XS.iload X0.here hx rfl (hb hby d9_24) rfl k) ?_
      refine Go.back (f' := (mkF m 28 #[.val (.ref so), .val (.int k32), .val (.int o1), .val (.int l1), .val (.int o2), .val (.int l2), .val (.int o3), .val (.int d32)] [(.int d32), (.int o2), (.ref so)])) (fun _ k => XS.iload X0.here hx rfl (hb hby d9_26) rfl k) ?_
      refine Go.back (f' := (mkF m 29 #[.val (.ref so), .val (.int k32), .val (.int o1), .val (.int l1), .val (.int o2), .val (.int l2), .val (.int o3), .val (.int d32)] [(.int (o2 + d32)), (.ref so)])) (fun _ k => XS.iadd X0.here hx rfl (hb hby d9_28) rfl k) ?_
      refine Go.back (f' := (mkF m 30 #[.val (.ref so), .val (.int k32), .val (.int o1), .val (.int l1), .val (.int o2), .val (.int l2), .val (.int o3), .val (.int d32)] [(.int ee)])) (A.ldB X0 hx hZ e0 (hb hby d9_29) (i := (f2 + (k - n1))) (add_nat ho2 hd (by omega)) (own_idx q)) ?_
      exact Go.retN X0 hx (t := .byte) hret (by simp) (own_nb (A.fit (own_idx q))) hlk (hb hby d9_30) (by (try rw [e0]); exact ⟨rfl, rfl, rfl⟩) (Nat.zero_le _) (Nat.zero_le _)
    · refine Go.back (f' := (mkF m 31 #[.val (.ref so), .val (.int k32), .val (.int o1), .val (.int l1), .val (.int o2), .val (.int l2), .val (.int o3), .val (.int d32)] [])) (fun _ k => XS.icmpYes X0.here hx rfl (pc0 := 20) (pc' := 31) rfl (hb hby d9_20) rfl (flt h2).2.1 (by decide) (by decide) k) ?_
      have j2 : ¬ k - n1 < n2 := fun q => h2 ((lt_nat hd hl2).mpr q)
      have q := H3 j1 j2
      refine Go.back (f' := (mkF m 32 #[.val (.ref so), .val (.int k32), .val (.int o1), .val (.int l1), .val (.int o2), .val (.int l2), .val (.int o3), .val (.int d32)] [(.ref so)])) (fun _ k => XS.aloadN X0.here hx rfl (hb hby d9_31) rfl rfl k) ?_
      refine Go.back (f' := (mkF m 34 #[.val (.ref so), .val (.int k32), .val (.int o1), .val (.int l1), .val (.int o2), .val (.int l2), .val (.int o3), .val (.int d32)] [(.int o3), (.ref so)])) (fun _ k => XS.iload X0.here hx rfl (hb hby d9_32) rfl k) ?_
      refine Go.back (f' := (mkF m 36 #[.val (.ref so), .val (.int k32), .val (.int o1), .val (.int l1), .val (.int o2), .val (.int l2), .val (.int o3), .val (.int d32)] [(.int d32), (.int o3), (.ref so)])) (fun _ k => XS.iload X0.here hx rfl (hb hby d9_34) rfl k) ?_
      refine Go.back (f' := (mkF m 37 #[.val (.ref so), .val (.int k32), .val (.int o1), .val (.int l1), .val (.int o2), .val (.int l2), .val (.int o3), .val (.int d32)] [(.int (o3 + d32)), (.ref so)])) (fun _ k => XS.iadd X0.here hx rfl (hb hby d9_36) rfl k) ?_
      refine Go.back (f' := (mkF m 39 #[.val (.ref so), .val (.int k32), .val (.int o1), .val (.int l1), .val (.int o2), .val (.int l2), .val (.int o3), .val (.int d32)] [(.int l2), (.int (o3 + d32)), (.ref so)])) (fun _ k => XS.iload X0.here hx rfl (hb hby d9_37) rfl k) ?_
      refine Go.back (f' := (mkF m 40 #[.val (.ref so), .val (.int k32), .val (.int o1), .val (.int l1), .val (.int o2), .val (.int l2), .val (.int o3), .val (.int d32)] [(.int ((o3 + d32) - l2)), (.ref so)])) (fun _ k => XS.isub X0.here hx rfl (hb hby d9_39) rfl k) ?_
      refine Go.back (f' := (mkF m 41 #[.val (.ref so), .val (.int k32), .val (.int o1), .val (.int l1), .val (.int o2), .val (.int l2), .val (.int o3), .val (.int d32)] [(.int ee)])) (A.ldB X0 hx hZ e0 (hb hby d9_40) (i := (f3 + (k - n1) - n2)) (sub_nat (add_nat ho3 hd (by omega)) hl2 (by omega)) (own_idx q)) ?_
      exact Go.retN X0 hx (t := .byte) hret (by simp) (own_nb (A.fit (own_idx q))) hlk (hb hby d9_41) (by (try rw [e0]); exact ⟨rfl, rfl, rfl⟩) (Nat.zero_le _) (Nat.zero_le _)
theorem ef_rmAt (m : MethodId) (x0 : Addr) (x1 : Int32) (x2 : Int32) (x3 : Int32) (x4 : Addr) (x5 : Int32) (x6 : Int32) (x7 : Int32) (x8 : Int32) (x9 : Int32) : entryFrame m #[(.ref x0), (.int x1), (.int x2), (.int x3), (.ref x4), (.int x5), (.int x6), (.int x7), (.int x8), (.int x9)] 10 = mkF m 0 #[.val (.ref x0), .val (.int x1), .val (.int x2), .val (.int x3), .val (.ref x4), .val (.int x5), .val (.int x6), .val (.int x7), .val (.int x8), .val (.int x9)] [] := by first | (simp [entryFrame, mkF, argsToLocals, Value.category]; done) | rfl
set_option maxRecDepth 65536 in
set_option maxHeartbeats 40000000 in
theorem rmAt (l : Launch) (Z : State) (a0 : Array Value) (hw : ∀ d ∈ tables_1, d.before a0 Z = true) (go so : Addr) (k32 z32 t32 : Int32) (o1 l1 o2 l2 o3 : Int32) (gs sl : List Int32) (k W f1 n1 f2 n2 f3 : Nat) (h0 : Heap) (G : VArr Z h0 go .byte (gs.map Value.int)) (A : VArr Z h0 so .byte (sl.map Value.int)) (ht : t32.toInt = W) (hW : W ≤ 1000) (gW : gs.length ≤ W) (ho1 : o1.toInt = f1) (hl1 : l1.toInt = n1) (ho2 : o2.toInt = f2) (hl2 : l2.toInt = n2) (ho3 : o3.toInt = f3) (hs8 : sl.length ≤ 8) (hf1 : f1 ≤ 8) (hf2 : f2 ≤ 8) (hf3 : f3 ≤ 8) (HS : ∀ k, k < gs.length → HSP sl f1 n1 f2 n2 f3 (W - gs.length + k) (gs.getD k 0)) (hk : k32.toInt = k) (k8 : k ≤ 8) (hz : z32.toInt = (gs.length : Int)) :
    Met l Z (⟨"com/example/chore_scheduler/chorescheduler/exec/OutputTailToByteArrayPinLaw", "at", "([BIII[BIIIII)Z"⟩ : MethodName) method_4_code 10 (some .boolean) ({ frames := 1, cells := 0, slots := 0, locals := 24 } : Room) #[(.ref go), (.int k32), (.int z32), (.int t32), (.ref so), (.int o1), (.int l1), (.int o2), (.int l2), (.int o3)] h0 (fun v h L => v = some (.int 1) ∧ L = [] ∧ h = h0) := by
  refine Met.intro (plainFor_of_name (by first | (simp [plainName, overriddenIn]; done) | decide +kernel)) ?_
  intro p e s m below meth c T0 hx hby hml hown hnm hret hlk hZ X0 e0
  refine Go.cast (ef_rmAt m go k32 z32 t32 so o1 l1 o2 l2 o3) ?_
  refine Go.back (f' := (mkF m 1 #[.val (.ref go), .val (.int k32), .val (.int z32), .val (.int t32), .val (.ref so), .val (.int o1), .val (.int l1), .val (.int o2), .val (.int l2), .val (.int o3)] [(.int k32)])) (fun _ k => XS.iloadN X0.here hx rfl (hb hby d8_0) rfl k) ?_
  refine Go.back (f' := (mkF m 2 #[.val (.ref go), .val (.int k32), .val (.int z32), .val (.int t32), .val (.ref so), .val (.int o1), .val (.int l1), .val (.int o2), .val (.int l2), .val (.int o3)] [(.int z32), (.int k32)])) (fun _ k => XS.iloadN X0.here hx rfl (hb hby d8_1) rfl k) ?_
  by_cases h1 : k32 < z32
  · refine Go.back (f' := (mkF m 7 #[.val (.ref go), .val (.int k32), .val (.int z32), .val (.int t32), .val (.ref so), .val (.int o1), .val (.int l1), .val (.int o2), .val (.int l2), .val (.int o3)] [])) (fun _ k => XS.icmpYes X0.here hx rfl (pc0 := 2) (pc' := 7) rfl (hb hby d8_2) rfl (tlt h1).1 (by decide) (by decide) k) ?_
    have k1 := (lt_nat hk hz).mp h1
    refine Go.back (f' := (mkF m 8 #[.val (.ref go), .val (.int k32), .val (.int z32), .val (.int t32), .val (.ref so), .val (.int o1), .val (.int l1), .val (.int o2), .val (.int l2), .val (.int o3)] [(.ref go)])) (fun _ k => XS.aloadN X0.here hx rfl (hb hby d8_7) rfl rfl k) ?_
    refine Go.back (f' := (mkF m 9 #[.val (.ref go), .val (.int k32), .val (.int z32), .val (.int t32), .val (.ref so), .val (.int o1), .val (.int l1), .val (.int o2), .val (.int l2), .val (.int o3)] [(.int k32), (.ref go)])) (fun _ k => XS.iloadN X0.here hx rfl (hb hby d8_8) rfl k) ?_
    refine Go.back (f' := (mkF m 10 #[.val (.ref go), .val (.int k32), .val (.int z32), .val (.int t32), .val (.ref so), .val (.int o1), .val (.int l1), .val (.int o2), .val (.int l2), .val (.int o3)] [(.int (gs.getD k 0))])) (G.ldB X0 hx hZ e0 (hb hby d8_9) (i := k) hk (own_at k1)) ?_
    refine Go.back (f' := (mkF m 12 #[.val (.ref go), .val (.int k32), .val (.int z32), .val (.int t32), .val (.ref so), .val (.int o1), .val (.int l1), .val (.int o2), .val (.int l2), .val (.int o3)] [(.ref so), (.int (gs.getD k 0))])) (fun _ k => XS.aload X0.here hx rfl (hb hby d8_10) rfl rfl k) ?_
    refine Go.back (f' := (mkF m 13 #[.val (.ref go), .val (.int k32), .val (.int z32), .val (.int t32), .val (.ref so), .val (.int o1), .val (.int l1), .val (.int o2), .val (.int l2), .val (.int o3)] [(.int t32), (.ref so), (.int (gs.getD k 0))])) (fun _ k => XS.iloadN X0.here hx rfl (hb hby d8_12) rfl k) ?_
    refine Go.back (f' := (mkF m 14 #[.val (.ref go), .val (.int k32), .val (.int z32), .val (.int t32), .val (.ref so), .val (.int o1), .val (.int l1), .val (.int o2), .val (.int l2), .val (.int o3)] [(.int z32), (.int t32), (.ref so), (.int (gs.getD k 0))])) (fun _ k => XS.iloadN X0.here hx rfl (hb hby d8_13) rfl k) ?_
    refine Go.back (f' := (mkF m 15 #[.val (.ref go), .val (.int k32), .val (.int z32), .val (.int t32), .val (.ref so), .val (.int o1), .val (.int l1), .val (.int o2), .val (.int l2), .val (.int o3)] [(.int (t32 - z32)), (.ref so), (.int (gs.getD k 0))])) (fun _ k => XS.isub X0.here hx rfl (hb hby d8_14) rfl k) ?_
    refine Go.back (f' := (mkF m 16 #[.val (.ref go), .val (.int k32), .val (.int z32), .val (.int t32), .val (.ref so), .val (.int o1), .val (.int l1), .val (.int o2), .val (.int l2), .val (.int o3)] [(.int k32), (.int (t32 - z32)), (.ref so), (.int (gs.getD k 0))])) (fun _ k => XS.iloadN X0.here hx rfl (hb hby d8_15) rfl k) ?_
    refine Go.back (f' := (mkF m 17 #[.val (.ref go), .val (.int k32), .val (.int z32), .val (.int t32), .val (.ref so), .val (.int o1), .val (.int l1), .val (.int o2), .val (.int l2), .val (.int o3)] [(.int ((t32 - z32) + k32)), (.ref so), (.int (gs.getD k 0))])) (fun _ k => XS.iadd X0.here hx rfl (hb hby d8_16) rfl k) ?_
    refine Go.back (f' := (mkF m 19 #[.val (.ref go), .val (.int k32), .val (.int z32), .val (.int t32), .val (.ref so), .val (.int o1), .val (.int l1), .val (.int o2), .val (.int l2), .val (.int o3)] [(.int o1), (.int ((t32 - z32) + k32)), (.ref so), (.int (gs.getD k 0))])) (fun _ k => XS.iload X0.here hx rfl (hb hby d8_17) rfl k) ?_
    refine Go.back (f' := (mkF m 21 #[.val (.ref go), .val (.int k32), .val (.int z32), .val (.int t32), .val (.ref so), .val (.int o1), .val (.int l1), .val (.int o2), .val (.int l2), .val (.int o3)] [(.int l1), (.int o1), (.int ((t32 - z32) + k32)), (.ref so), (.int (gs.getD k 0))])) (fun _ k => XS.iload X0.here hx rfl (hb hby d8_19) rfl k) ?_
    refine Go.back (f' := (mkF m 23 #[.val (.ref go), .val (.int k32), .val (.int z32), .val (.int t32), .val (.ref so), .val (.int o1), .val (.int l1), .val (.int o2), .val (.int l2), .val (.int o3)] [(.int o2), (.int l1), (.int o1), (.int ((t32 - z32) + k32)), (.ref so), (.int (gs.getD k 0))])) (fun _ k => XS.iload X0.here hx rfl (hb hby d8_21) rfl k) ?_
    refine Go.back (f' := (mkF m 25 #[.val (.ref go), .val (.int k32), .val (.int z32), .val (.int t32), .val (.ref so), .val (.int o1), .val (.int l1), .val (.int o2), .val (.int l2), .val (.int o3)] [(.int l2), (.int o2), (.int l1), (.int o1), (.int ((t32 - z32) + k32)), (.ref so), (.int (gs.getD k 0))])) (fun _ k => XS.iload X0.here hx rfl (hb hby d8_23) rfl k) ?_
    refine Go.back (f' := (mkF m 27 #[.val (.ref go), .val (.int k32), .val (.int z32), .val (.int t32), .val (.ref so), .val (.int o1), .val (.int l1), .val (.int o2), .val (.int l2), .val (.int o3)] [(.int o3), (.int l2), (.int o2), (.int l1), (.int o1), (.int ((t32 - z32) + k32)), (.ref so), (.int (gs.getD k 0))])) (fun _ k => XS.iload X0.here hx rfl (hb hby d8_25) rfl k) ?_
    refine Go.callS X0 hx hZ hown (hw _ (List.mem_of_getElem? (i := 44) rfl)) (hw _ (List.mem_of_getElem? (i := 45) rfl)) (hw _ (List.mem_of_getElem? (i := 38) rfl)) (hw _ (List.mem_of_getElem? (i := 46) rfl)) (by decide) e0 (argsL := [(.ref so), (.int ((t32 - z32) + k32)), (.int o1), (.int l1), (.int o2), (.int l2), (.int o3)]) (rest := [(.int (gs.getD k 0))]) (rmSt l Z a0 hw so ((t32 - z32) + k32) o1 l1 o2 l2 o3 sl (W - gs.length + k) f1 n1 f2 n2 f3 (gs.getD k 0) h0 A (add_nat (sub_nat ht hz gW) hk (by omega)) (by omega) ho1 hl1 ho2 hl2 ho3 hs8 hf1 hf2 hf3 (HS k k1)) (lenOf pd_2 rfl) rfl (by rw [hml]; rfl) (W := 1) (Nat.le_of_eq rfl) (hb hby d8_27) (by decide) (by decide) (by decide) (by decide) ?_
    intro v60 T60 L60 X60 hQ60
    obtain ⟨rfl, rfl, hh60⟩ := hQ60
    rw [List.append_nil] at X60
    show GoG _ _ _ _ _ (mkF m 30 #[.val (.ref go), .val (.int k32), .val (.int z32), .val (.int t32), .val (.ref so), .val (.int o1), .val (.int l1), .val (.int o2), .val (.int l2), .val (.int o3)] [(.int (gs.getD k 0)), (.int (gs.getD k 0))])
    refine Go.back (f' := (mkF m 33 #[.val (.ref go), .val (.int k32), .val (.int z32), .val (.int t32), .val (.ref so), .val (.int o1), .val (.int l1), .val (.int o2), .val (.int l2), .val (.int o3)] [])) (fun _ k => XS.icmpNo X60.here hx rfl (hb hby d8_30) rfl (teq rfl).2 k) ?_
    refine Go.back (f' := (mkF m 34 #[.val (.ref go), .val (.int k32), .val (.int z32), .val (.int t32), .val (.ref so), .val (.int o1), .val (.int l1), .val (.int o2), .val (.int l2), .val (.int o3)] [(.int (1 : Int32))])) (fun _ k => XS.iconst X60.here hx rfl (hb hby d8_33) k) ?_
    refine Go.back (f' := (mkF m 38 #[.val (.ref go), .val (.int k32), .val (.int z32), .val (.int t32), .val (.ref so), .val (.int o1), .val (.int l1), .val (.int o2), .val (.int l2), .val (.int o3)] [(.int (1 : Int32))])) (fun _ k => XS.goto X60.here hx rfl (pc0 := 34) (pc' := 38) rfl (hb hby d8_34) (by decide) (by decide) k) ?_
    exact Go.retN X60 hx (t := .boolean) hret (by simp) (w := (1 : Int32)) rfl hlk (hb hby d8_38) (by (try rw [hh60]); exact ⟨rfl, rfl, rfl⟩) (Nat.zero_le _) (Nat.zero_le _)
  · refine Go.back (f' := (mkF m 5 #[.val (.ref go), .val (.int k32), .val (.int z32), .val (.int t32), .val (.ref so), .val (.int o1), .val (.int l1), .val (.int o2), .val (.int l2), .val (.int o3)] [])) (fun _ k => XS.icmpNo X0.here hx rfl (hb hby d8_2) rfl (flt h1).1 k) ?_
    refine Go.back (f' := (mkF m 6 #[.val (.ref go), .val (.int k32), .val (.int z32), .val (.int t32), .val (.ref so), .val (.int o1), .val (.int l1), .val (.int o2), .val (.int l2), .val (.int o3)] [(.int (1 : Int32))])) (fun _ k => XS.iconst X0.here hx rfl (hb hby d8_5) k) ?_
    exact Go.retN X0 hx (t := .boolean) hret (by simp) (w := (1 : Int32)) rfl hlk (hb hby d8_6) (by (try rw [e0]); exact ⟨rfl, rfl, rfl⟩) (Nat.zero_le _) (Nat.zero_le _)
theorem ef_rmMat (m : MethodId) (x0 : Addr) (x1 : Int32) (x2 : Addr) (x3 : Int32) (x4 : Int32) (x5 : Int32) (x6 : Int32) (x7 : Int32) (x8 : Int32) (x9 : Int32) : entryFrame m #[(.ref x0), (.int x1), (.ref x2), (.int x3), (.int x4), (.int x5), (.int x6), (.int x7), (.int x8), (.int x9)] 11 = mkF m 0 #[.val (.ref x0), .val (.int x1), .val (.ref x2), .val (.int x3), .val (.int x4), .val (.int x5), .val (.int x6), .val (.int x7), .val (.int x8), .val (.int x9), .unset] [] := by first | (simp [entryFrame, mkF, argsToLocals, Value.category]; done) | rfl
set_option maxRecDepth 65536 in
set_option maxHeartbeats 40000000 in
theorem rmMat (l : Launch) (Z : State) (a0 : Array Value) (hw : ∀ d ∈ tables_1, d.before a0 Z = true) (go so : Addr) (c32 t32 : Int32) (o1 l1 o2 l2 o3 : Int32) (l3 : Int32) (gs sl : List Int32) (c' W f1 n1 f2 n2 f3 : Nat) (h0 : Heap) (G : VArr Z h0 go .byte (gs.map Value.int)) (A : VArr Z h0 so .byte (sl.map Value.int)) (ht : t32.toInt = W) (hW : W ≤ 1000) (gW : gs.length ≤ W) (ho1 : o1.toInt = f1) (hl1 : l1.toInt = n1) (ho2 : o2.toInt = f2) (hl2 : l2.toInt = n2) (ho3 : o3.toInt = f3) (hs8 : sl.length ≤ 8) (hf1 : f1 ≤ 8) (hf2 : f2 ≤ 8) (hf3 : f3 ≤ 8) (HS : ∀ k, k < gs.length → HSP sl f1 n1 f2 n2 f3 (W - gs.length + k) (gs.getD k 0)) (hc : c32.toInt = c') (gm : gs.length = min W c') :
    Met l Z (⟨"com/example/chore_scheduler/chorescheduler/exec/OutputTailToByteArrayPinLaw", "matches", "([BI[BIIIIIII)Z"⟩ : MethodName) method_3_code 11 (some .boolean) ({ frames := 2, cells := 0, slots := 0, locals := 48 } : Room) #[(.ref go), (.int c32), (.ref so), (.int t32), (.int o1), (.int l1), (.int o2), (.int l2), (.int o3), (.int l3)] h0 (fun v h L => v = some (.int 1) ∧ L = [] ∧ h = h0) := by
  refine Met.intro (plainFor_of_name (by first | (simp [plainName, overriddenIn]; done) | decide +kernel)) ?_
  intro p e s m below meth c T0 hx hby hml hown hnm hret hlk hZ X0 e0
  refine Go.cast (ef_rmMat m go c32 so t32 o1 l1 o2 l2 o3 l3) ?_
  have gc : gs.length < 2147483648 := by omega
  refine Go.back (f' := (mkF m 1 #[.val (.ref go), .val (.int c32), .val (.ref so), .val (.int t32), .val (.int o1), .val (.int l1), .val (.int o2), .val (.int l2), .val (.int o3), .val (.int l3), .unset] [(.int t32)])) (fun _ k => XS.iloadN X0.here hx rfl (hb hby d7_0) rfl k) ?_
  refine Go.back (f' := (mkF m 2 #[.val (.ref go), .val (.int c32), .val (.ref so), .val (.int t32), .val (.int o1), .val (.int l1), .val (.int o2), .val (.int l2), .val (.int o3), .val (.int l3), .unset] [(.int c32), (.int t32)])) (fun _ k => XS.iloadN X0.here hx rfl (hb hby d7_1) rfl k) ?_
  refine Go.callS X0 hx hZ hown (hw _ (List.mem_of_getElem? (i := 40) rfl)) (hw _ (List.mem_of_getElem? (i := 30) rfl)) (hw _ (List.mem_of_getElem? (i := 27) rfl)) (hw _ (List.mem_of_getElem? (i := 31) rfl)) (by decide) e0 (argsL := [(.int t32), (.int c32)]) (rest := []) (rmMin l Z a0 hw t32 c32 h0) (lenOf pd_0 rfl) rfl (by rw [hml]; rfl) (W := 0) (Nat.le_of_eq rfl) (hb hby d7_2) (by decide) (by decide) (by decide) (by decide) ?_
  intro v61 T61 L61 X61 hQ61
  obtain ⟨rfl, rfl, hh61⟩ := hQ61
  rw [List.append_nil] at X61
  have hz := min_nat ht hc
  generalize (if c32 < t32 then c32 else t32) = z32 at hz ⊢
  rw [← gm] at hz
  show GoG _ _ _ _ _ (mkF m 5 #[.val (.ref go), .val (.int c32), .val (.ref so), .val (.int t32), .val (.int o1), .val (.int l1), .val (.int o2), .val (.int l2), .val (.int o3), .val (.int l3), .unset] [(.int z32)])
  refine Go.back (f' := (mkF m 7 #[.val (.ref go), .val (.int c32), .val (.ref so), .val (.int t32), .val (.int o1), .val (.int l1), .val (.int o2), .val (.int l2), .val (.int o3), .val (.int l3), .val (.int z32)] [])) (fun _ k => XS.istore X61.here hx rfl (hb hby d7_5) rfl (l' := #[.val (.ref go), .val (.int c32), .val (.ref so), .val (.int t32), .val (.int o1), .val (.int l1), .val (.int o2), .val (.int l2), .val (.int o3), .val (.int l3), .val (.int z32)]) rfl k) ?_
  refine Go.back (f' := (mkF m 8 #[.val (.ref go), .val (.int c32), .val (.ref so), .val (.int t32), .val (.int o1), .val (.int l1), .val (.int o2), .val (.int l2), .val (.int o3), .val (.int l3), .val (.int z32)] [(.ref go)])) (fun _ k => XS.aloadN X61.here hx rfl (hb hby d7_7) rfl rfl k) ?_
  refine Go.back (f' := (mkF m 9 #[.val (.ref go), .val (.int c32), .val (.ref so), .val (.int t32), .val (.int o1), .val (.int l1), .val (.int o2), .val (.int l2), .val (.int o3), .val (.int l3), .val (.int z32)] [(.int ((gs.map Value.int)).length.toInt32)])) (G.lenS X61 hx hZ hh61 (hb hby d7_8)) ?_
  rw [List.length_map]
  show GoG _ _ _ _ _ (mkF m 9 #[.val (.ref go), .val (.int c32), .val (.ref so), .val (.int t32), .val (.int o1), .val (.int l1), .val (.int o2), .val (.int l2), .val (.int o3), .val (.int l3), .val (.int z32)] [(.int gs.length.toInt32)])
  refine Go.back (f' := (mkF m 11 #[.val (.ref go), .val (.int c32), .val (.ref so), .val (.int t32), .val (.int o1), .val (.int l1), .val (.int o2), .val (.int l2), .val (.int o3), .val (.int l3), .val (.int z32)] [(.int z32), (.int gs.length.toInt32)])) (fun _ k => XS.iload X61.here hx rfl (hb hby d7_9) rfl k) ?_
  refine Go.back (f' := (mkF m 16 #[.val (.ref go), .val (.int c32), .val (.ref so), .val (.int t32), .val (.int o1), .val (.int l1), .val (.int o2), .val (.int l2), .val (.int o3), .val (.int l3), .val (.int z32)] [])) (fun _ k => XS.icmpYes X61.here hx rfl (pc0 := 11) (pc' := 16) rfl (hb hby d7_11) rfl (teq ((eq_nat (n32 gc) hz).mpr rfl)).1 (by decide) (by decide) k) ?_
  refine Go.back (f' := (mkF m 17 #[.val (.ref go), .val (.int c32), .val (.ref so), .val (.int t32), .val (.int o1), .val (.int l1), .val (.int o2), .val (.int l2), .val (.int o3), .val (.int l3), .val (.int z32)] [(.ref go)])) (fun _ k => XS.aloadN X61.here hx rfl (hb hby d7_16) rfl rfl k) ?_
  refine Go.back (f' := (mkF m 18 #[.val (.ref go), .val (.int c32), .val (.ref so), .val (.int t32), .val (.int o1), .val (.int l1), .val (.int o2), .val (.int l2), .val (.int o3), .val (.int l3), .val (.int z32)] [(.int (0 : Int32)), (.ref go)])) (fun _ k => XS.iconst X61.here hx rfl (hb hby d7_17) k) ?_
  refine Go.back (f' := (mkF m 20 #[.val (.ref go), .val (.int c32), .val (.ref so), .val (.int t32), .val (.int o1), .val (.int l1), .val (.int o2), .val (.int l2), .val (.int o3), .val (.int l3), .val (.int z32)] [(.int z32), (.int (0 : Int32)), (.ref go)])) (fun _ k => XS.iload X61.here hx rfl (hb hby d7_18) rfl k) ?_
  refine Go.back (f' := (mkF m 21 #[.val (.ref go), .val (.int c32), .val (.ref so), .val (.int t32), .val (.int o1), .val (.int l1), .val (.int o2), .val (.int l2), .val (.int o3), .val (.int l3), .val (.int z32)] [(.int t32), (.int z32), (.int (0 : Int32)), (.ref go)])) (fun _ k => XS.iloadN X61.here hx rfl (hb hby d7_20) rfl k) ?_
  refine Go.back (f' := (mkF m 22 #[.val (.ref go), .val (.int c32), .val (.ref so), .val (.int t32), .val (.int o1), .val (.int l1), .val (.int o2), .val (.int l2), .val (.int o3), .val (.int l3), .val (.int z32)] [(.ref so), (.int t32), (.int z32), (.int (0 : Int32)), (.ref go)])) (fun _ k => XS.aloadN X61.here hx rfl (hb hby d7_21) rfl rfl k) ?_
  refine Go.back (f' := (mkF m 24 #[.val (.ref go), .val (.int c32), .val (.ref so), .val (.int t32), .val (.int o1), .val (.int l1), .val (.int o2), .val (.int l2), .val (.int o3), .val (.int l3), .val (.int z32)] [(.int o1), (.ref so), (.int t32), (.int z32), (.int (0 : Int32)), (.ref go)])) (fun _ k => XS.iload X61.here hx rfl (hb hby d7_22) rfl k) ?_
  refine Go.back (f' := (mkF m 26 #[.val (.ref go), .val (.int c32), .val (.ref so), .val (.int t32), .val (.int o1), .val (.int l1), .val (.int o2), .val (.int l2), .val (.int o3), .val (.int l3), .val (.int z32)] [(.int l1), (.int o1), (.ref so), (.int t32), (.int z32), (.int (0 : Int32)), (.ref go)])) (fun _ k => XS.iload X61.here hx rfl (hb hby d7_24) rfl k) ?_
  refine Go.back (f' := (mkF m 28 #[.val (.ref go), .val (.int c32), .val (.ref so), .val (.int t32), .val (.int o1), .val (.int l1), .val (.int o2), .val (.int l2), .val (.int o3), .val (.int l3), .val (.int z32)] [(.int o2), (.int l1), (.int o1), (.ref so), (.int t32), (.int z32), (.int (0 : Int32)), (.ref go)])) (fun _ k => XS.iload X61.here hx rfl (hb hby d7_26) rfl k) ?_
  refine Go.back (f' := (mkF m 30 #[.val (.ref go), .val (.int c32), .val (.ref so), .val (.int t32), .val (.int o1), .val (.int l1), .val (.int o2), .val (.int l2), .val (.int o3), .val (.int l3), .val (.int z32)] [(.int l2), (.int o2), (.int l1), (.int o1), (.ref so), (.int t32), (.int z32), (.int (0 : Int32)), (.ref go)])) (fun _ k => XS.iload X61.here hx rfl (hb hby d7_28) rfl k) ?_
  refine Go.back (f' := (mkF m 32 #[.val (.ref go), .val (.int c32), .val (.ref so), .val (.int t32), .val (.int o1), .val (.int l1), .val (.int o2), .val (.int l2), .val (.int o3), .val (.int l3), .val (.int z32)] [(.int o3), (.int l2), (.int o2), (.int l1), (.int o1), (.ref so), (.int t32), (.int z32), (.int (0 : Int32)), (.ref go)])) (fun _ k => XS.iload X61.here hx rfl (hb hby d7_30) rfl k) ?_
  refine Go.callS X61 hx hZ hown (hw _ (List.mem_of_getElem? (i := 41) rfl)) (hw _ (List.mem_of_getElem? (i := 42) rfl)) (hw _ (List.mem_of_getElem? (i := 38) rfl)) (hw _ (List.mem_of_getElem? (i := 43) rfl)) (by decide) hh61 (argsL := [(.ref go), (.int (0 : Int32)), (.int z32), (.int t32), (.ref so), (.int o1), (.int l1), (.int o2), (.int l2), (.int o3)]) (rest := []) (rmAt l Z a0 hw go so (0 : Int32) z32 t32 o1 l1 o2 l2 o3 gs sl 0 W f1 n1 f2 n2 f3 h0 G A ht hW gW ho1 hl1 ho2 hl2 ho3 hs8 hf1 hf2 hf3 HS rfl (by decide) hz) (lenOf pd_3 rfl) rfl (by rw [hml]; rfl) (W := 0) (Nat.le_of_eq rfl) (hb hby d7_32) (by decide) (by decide) (by decide) (by decide) ?_
  intro v62 T62 L62 X62 hQ62
  obtain ⟨rfl, rfl, hh62⟩ := hQ62
  rw [List.append_nil] at X62
  show GoG _ _ _ _ _ (mkF m 35 #[.val (.ref go), .val (.int c32), .val (.ref so), .val (.int t32), .val (.int o1), .val (.int l1), .val (.int o2), .val (.int l2), .val (.int o3), .val (.int l3), .val (.int z32)] [(.int (1 : Int32))])
  refine Go.back (f' := (mkF m 38 #[.val (.ref go), .val (.int c32), .val (.ref so), .val (.int t32), .val (.int o1), .val (.int l1), .val (.int o2), .val (.int l2), .val (.int o3), .val (.int l3), .val (.int z32)] [])) (fun _ k => XS.ifNo X62.here hx rfl (hb hby d7_35) rfl ((if0 _ _).trans (feq (by decide)).1) k) ?_
  refine Go.back (f' := (mkF m 39 #[.val (.ref go), .val (.int c32), .val (.ref so), .val (.int t32), .val (.int o1), .val (.int l1), .val (.int o2), .val (.int l2), .val (.int o3), .val (.int l3), .val (.int z32)] [(.ref go)])) (fun _ k => XS.aloadN X62.here hx rfl (hb hby d7_38) rfl rfl k) ?_
  refine Go.back (f' := (mkF m 40 #[.val (.ref go), .val (.int c32), .val (.ref so), .val (.int t32), .val (.int o1), .val (.int l1), .val (.int o2), .val (.int l2), .val (.int o3), .val (.int l3), .val (.int z32)] [(.int (1 : Int32)), (.ref go)])) (fun _ k => XS.iconst X62.here hx rfl (hb hby d7_39) k) ?_
  refine Go.back (f' := (mkF m 42 #[.val (.ref go), .val (.int c32), .val (.ref so), .val (.int t32), .val (.int o1), .val (.int l1), .val (.int o2), .val (.int l2), .val (.int o3), .val (.int l3), .val (.int z32)] [(.int z32), (.int (1 : Int32)), (.ref go)])) (fun _ k => XS.iload X62.here hx rfl (hb hby d7_40) rfl k) ?_
  refine Go.back (f' := (mkF m 43 #[.val (.ref go), .val (.int c32), .val (.ref so), .val (.int t32), .val (.int o1), .val (.int l1), .val (.int o2), .val (.int l2), .val (.int o3), .val (.int l3), .val (.int z32)] [(.int t32), (.int z32), (.int (1 : Int32)), (.ref go)])) (fun _ k => XS.iloadN X62.here hx rfl (hb hby d7_42) rfl k) ?_
  refine Go.back (f' := (mkF m 44 #[.val (.ref go), .val (.int c32), .val (.ref so), .val (.int t32), .val (.int o1), .val (.int l1), .val (.int o2), .val (.int l2), .val (.int o3), .val (.int l3), .val (.int z32)] [(.ref so), (.int t32), (.int z32), (.int (1 : Int32)), (.ref go)])) (fun _ k => XS.aloadN X62.here hx rfl (hb hby d7_43) rfl rfl k) ?_
  refine Go.back (f' := (mkF m 46 #[.val (.ref go), .val (.int c32), .val (.ref so), .val (.int t32), .val (.int o1), .val (.int l1), .val (.int o2), .val (.int l2), .val (.int o3), .val (.int l3), .val (.int z32)] [(.int o1), (.ref so), (.int t32), (.int z32), (.int (1 : Int32)), (.ref go)])) (fun _ k => XS.iload X62.here hx rfl (hb hby d7_44) rfl k) ?_
  refine Go.back (f' := (mkF m 48 #[.val (.ref go), .val (.int c32), .val (.ref so), .val (.int t32), .val (.int o1), .val (.int l1), .val (.int o2), .val (.int l2), .val (.int o3), .val (.int l3), .val (.int z32)] [(.int l1), (.int o1), (.ref so), (.int t32), (.int z32), (.int (1 : Int32)), (.ref go)])) (fun _ k => XS.iload X62.here hx rfl (hb hby d7_46) rfl k) ?_
  refine Go.back (f' := (mkF m 50 #[.val (.ref go), .val (.int c32), .val (.ref so), .val (.int t32), .val (.int o1), .val (.int l1), .val (.int o2), .val (.int l2), .val (.int o3), .val (.int l3), .val (.int z32)] [(.int o2), (.int l1), (.int o1), (.ref so), (.int t32), (.int z32), (.int (1 : Int32)), (.ref go)])) (fun _ k => XS.iload X62.here hx rfl (hb hby d7_48) rfl k) ?_
  refine Go.back (f' := (mkF m 52 #[.val (.ref go), .val (.int c32), .val (.ref so), .val (.int t32), .val (.int o1), .val (.int l1), .val (.int o2), .val (.int l2), .val (.int o3), .val (.int l3), .val (.int z32)] [(.int l2), (.int o2), (.int l1), (.int o1), (.ref so), (.int t32), (.int z32), (.int (1 : Int32)), (.ref go)])) (fun _ k => XS.iload X62.here hx rfl (hb hby d7_50) rfl k) ?_
  refine Go.back (f' := (mkF m 54 #[.val (.ref go), .val (.int c32), .val (.ref so), .val (.int t32), .val (.int o1), .val (.int l1), .val (.int o2), .val (.int l2), .val (.int o3), .val (.int l3), .val (.int z32)] [(.int o3), (.int l2), (.int o2), (.int l1), (.int o1), (.ref so), (.int t32), (.int z32), (.int (1 : Int32)), (.ref go)])) (fun _ k => XS.iload X62.here hx rfl (hb hby d7_52) rfl k) ?_
  refine Go.callS X62 hx hZ hown (hw _ (List.mem_of_getElem? (i := 41) rfl)) (hw _ (List.mem_of_getElem? (i := 42) rfl)) (hw _ (List.mem_of_getElem? (i := 38) rfl)) (hw _ (List.mem_of_getElem? (i := 43) rfl)) (by decide) hh62 (argsL := [(.ref go), (.int (1 : Int32)), (.int z32), (.int t32), (.ref so), (.int o1), (.int l1), (.int o2), (.int l2), (.int o3)]) (rest := []) (rmAt l Z a0 hw go so (1 : Int32) z32 t32 o1 l1 o2 l2 o3 gs sl 1 W f1 n1 f2 n2 f3 h0 G A ht hW gW ho1 hl1 ho2 hl2 ho3 hs8 hf1 hf2 hf3 HS rfl (by decide) hz) (lenOf pd_3 rfl) rfl (by rw [hml]; rfl) (W := 0) (Nat.le_of_eq rfl) (hb hby d7_54) (by decide) (by decide) (by decide) (by decide) ?_
  intro v63 T63 L63 X63 hQ63
  obtain ⟨rfl, rfl, hh63⟩ := hQ63
  rw [List.append_nil] at X63
  show GoG _ _ _ _ _ (mkF m 57 #[.val (.ref go), .val (.int c32), .val (.ref so), .val (.int t32), .val (.int o1), .val (.int l1), .val (.int o2), .val (.int l2), .val (.int o3), .val (.int l3), .val (.int z32)] [(.int (1 : Int32))])
  refine Go.back (f' := (mkF m 60 #[.val (.ref go), .val (.int c32), .val (.ref so), .val (.int t32), .val (.int o1), .val (.int l1), .val (.int o2), .val (.int l2), .val (.int o3), .val (.int l3), .val (.int z32)] [])) (fun _ k => XS.ifNo X63.here hx rfl (hb hby d7_57) rfl ((if0 _ _).trans (feq (by decide)).1) k) ?_
  refine Go.back (f' := (mkF m 61 #[.val (.ref go), .val (.int c32), .val (.ref so), .val (.int t32), .val (.int o1), .val (.int l1), .val (.int o2), .val (.int l2), .val (.int o3), .val (.int l3), .val (.int z32)] [(.ref go)])) (fun _ k => XS.aloadN X63.here hx rfl (hb hby d7_60) rfl rfl k) ?_
  refine Go.back (f' := (mkF m 62 #[.val (.ref go), .val (.int c32), .val (.ref so), .val (.int t32), .val (.int o1), .val (.int l1), .val (.int o2), .val (.int l2), .val (.int o3), .val (.int l3), .val (.int z32)] [(.int (2 : Int32)), (.ref go)])) (fun _ k => XS.iconst X63.here hx rfl (hb hby d7_61) k) ?_
  refine Go.back (f' := (mkF m 64 #[.val (.ref go), .val (.int c32), .val (.ref so), .val (.int t32), .val (.int o1), .val (.int l1), .val (.int o2), .val (.int l2), .val (.int o3), .val (.int l3), .val (.int z32)] [(.int z32), (.int (2 : Int32)), (.ref go)])) (fun _ k => XS.iload X63.here hx rfl (hb hby d7_62) rfl k) ?_
  refine Go.back (f' := (mkF m 65 #[.val (.ref go), .val (.int c32), .val (.ref so), .val (.int t32), .val (.int o1), .val (.int l1), .val (.int o2), .val (.int l2), .val (.int o3), .val (.int l3), .val (.int z32)] [(.int t32), (.int z32), (.int (2 : Int32)), (.ref go)])) (fun _ k => XS.iloadN X63.here hx rfl (hb hby d7_64) rfl k) ?_
  refine Go.back (f' := (mkF m 66 #[.val (.ref go), .val (.int c32), .val (.ref so), .val (.int t32), .val (.int o1), .val (.int l1), .val (.int o2), .val (.int l2), .val (.int o3), .val (.int l3), .val (.int z32)] [(.ref so), (.int t32), (.int z32), (.int (2 : Int32)), (.ref go)])) (fun _ k => XS.aloadN X63.here hx rfl (hb hby d7_65) rfl rfl k) ?_
  refine Go.back (f' := (mkF m 68 #[.val (.ref go), .val (.int c32), .val (.ref so), .val (.int t32), .val (.int o1), .val (.int l1), .val (.int o2), .val (.int l2), .val (.int o3), .val (.int l3), .val (.int z32)] [(.int o1), (.ref so), (.int t32), (.int z32), (.int (2 : Int32)), (.ref go)])) (fun _ k => XS.iload X63.here hx rfl (hb hby d7_66) rfl k) ?_
  refine Go.back (f' := (mkF m 70 #[.val (.ref go), .val (.int c32), .val (.ref so), .val (.int t32), .val (.int o1), .val (.int l1), .val (.int o2), .val (.int l2), .val (.int o3), .val (.int l3), .val (.int z32)] [(.int l1), (.int o1), (.ref so), (.int t32), (.int z32), (.int (2 : Int32)), (.ref go)])) (fun _ k => XS.iload X63.here hx rfl (hb hby d7_68) rfl k) ?_
  refine Go.back (f' := (mkF m 72 #[.val (.ref go), .val (.int c32), .val (.ref so), .val (.int t32), .val (.int o1), .val (.int l1), .val (.int o2), .val (.int l2), .val (.int o3), .val (.int l3), .val (.int z32)] [(.int o2), (.int l1), (.int o1), (.ref so), (.int t32), (.int z32), (.int (2 : Int32)), (.ref go)])) (fun _ k => XS.iload X63.here hx rfl (hb hby d7_70) rfl k) ?_
  refine Go.back (f' := (mkF m 74 #[.val (.ref go), .val (.int c32), .val (.ref so), .val (.int t32), .val (.int o1), .val (.int l1), .val (.int o2), .val (.int l2), .val (.int o3), .val (.int l3), .val (.int z32)] [(.int l2), (.int o2), (.int l1), (.int o1), (.ref so), (.int t32), (.int z32), (.int (2 : Int32)), (.ref go)])) (fun _ k => XS.iload X63.here hx rfl (hb hby d7_72) rfl k) ?_
  refine Go.back (f' := (mkF m 76 #[.val (.ref go), .val (.int c32), .val (.ref so), .val (.int t32), .val (.int o1), .val (.int l1), .val (.int o2), .val (.int l2), .val (.int o3), .val (.int l3), .val (.int z32)] [(.int o3), (.int l2), (.int o2), (.int l1), (.int o1), (.ref so), (.int t32), (.int z32), (.int (2 : Int32)), (.ref go)])) (fun _ k => XS.iload X63.here hx rfl (hb hby d7_74) rfl k) ?_
  refine Go.callS X63 hx hZ hown (hw _ (List.mem_of_getElem? (i := 41) rfl)) (hw _ (List.mem_of_getElem? (i := 42) rfl)) (hw _ (List.mem_of_getElem? (i := 38) rfl)) (hw _ (List.mem_of_getElem? (i := 43) rfl)) (by decide) hh63 (argsL := [(.ref go), (.int (2 : Int32)), (.int z32), (.int t32), (.ref so), (.int o1), (.int l1), (.int o2), (.int l2), (.int o3)]) (rest := []) (rmAt l Z a0 hw go so (2 : Int32) z32 t32 o1 l1 o2 l2 o3 gs sl 2 W f1 n1 f2 n2 f3 h0 G A ht hW gW ho1 hl1 ho2 hl2 ho3 hs8 hf1 hf2 hf3 HS rfl (by decide) hz) (lenOf pd_3 rfl) rfl (by rw [hml]; rfl) (W := 0) (Nat.le_of_eq rfl) (hb hby d7_76) (by decide) (by decide) (by decide) (by decide) ?_
  intro v64 T64 L64 X64 hQ64
  obtain ⟨rfl, rfl, hh64⟩ := hQ64
  rw [List.append_nil] at X64
  show GoG _ _ _ _ _ (mkF m 79 #[.val (.ref go), .val (.int c32), .val (.ref so), .val (.int t32), .val (.int o1), .val (.int l1), .val (.int o2), .val (.int l2), .val (.int o3), .val (.int l3), .val (.int z32)] [(.int (1 : Int32))])
  refine Go.back (f' := (mkF m 82 #[.val (.ref go), .val (.int c32), .val (.ref so), .val (.int t32), .val (.int o1), .val (.int l1), .val (.int o2), .val (.int l2), .val (.int o3), .val (.int l3), .val (.int z32)] [])) (fun _ k => XS.ifNo X64.here hx rfl (hb hby d7_79) rfl ((if0 _ _).trans (feq (by decide)).1) k) ?_
  refine Go.back (f' := (mkF m 83 #[.val (.ref go), .val (.int c32), .val (.ref so), .val (.int t32), .val (.int o1), .val (.int l1), .val (.int o2), .val (.int l2), .val (.int o3), .val (.int l3), .val (.int z32)] [(.ref go)])) (fun _ k => XS.aloadN X64.here hx rfl (hb hby d7_82) rfl rfl k) ?_
  refine Go.back (f' := (mkF m 84 #[.val (.ref go), .val (.int c32), .val (.ref so), .val (.int t32), .val (.int o1), .val (.int l1), .val (.int o2), .val (.int l2), .val (.int o3), .val (.int l3), .val (.int z32)] [(.int (3 : Int32)), (.ref go)])) (fun _ k => XS.iconst X64.here hx rfl (hb hby d7_83) k) ?_
  refine Go.back (f' := (mkF m 86 #[.val (.ref go), .val (.int c32), .val (.ref so), .val (.int t32), .val (.int o1), .val (.int l1), .val (.int o2), .val (.int l2), .val (.int o3), .val (.int l3), .val (.int z32)] [(.int z32), (.int (3 : Int32)), (.ref go)])) (fun _ k => XS.iload X64.here hx rfl (hb hby d7_84) rfl k) ?_
  refine Go.back (f' := (mkF m 87 #[.val (.ref go), .val (.int c32), .val (.ref so), .val (.int t32), .val (.int o1), .val (.int l1), .val (.int o2), .val (.int l2), .val (.int o3), .val (.int l3), .val (.int z32)] [(.int t32), (.int z32), (.int (3 : Int32)), (.ref go)])) (fun _ k => XS.iloadN X64.here hx rfl (hb hby d7_86) rfl k) ?_
  refine Go.back (f' := (mkF m 88 #[.val (.ref go), .val (.int c32), .val (.ref so), .val (.int t32), .val (.int o1), .val (.int l1), .val (.int o2), .val (.int l2), .val (.int o3), .val (.int l3), .val (.int z32)] [(.ref so), (.int t32), (.int z32), (.int (3 : Int32)), (.ref go)])) (fun _ k => XS.aloadN X64.here hx rfl (hb hby d7_87) rfl rfl k) ?_
  refine Go.back (f' := (mkF m 90 #[.val (.ref go), .val (.int c32), .val (.ref so), .val (.int t32), .val (.int o1), .val (.int l1), .val (.int o2), .val (.int l2), .val (.int o3), .val (.int l3), .val (.int z32)] [(.int o1), (.ref so), (.int t32), (.int z32), (.int (3 : Int32)), (.ref go)])) (fun _ k => XS.iload X64.here hx rfl (hb hby d7_88) rfl k) ?_
  refine Go.back (f' := (mkF m 92 #[.val (.ref go), .val (.int c32), .val (.ref so), .val (.int t32), .val (.int o1), .val (.int l1), .val (.int o2), .val (.int l2), .val (.int o3), .val (.int l3), .val (.int z32)] [(.int l1), (.int o1), (.ref so), (.int t32), (.int z32), (.int (3 : Int32)), (.ref go)])) (fun _ k => XS.iload X64.here hx rfl (hb hby d7_90) rfl k) ?_
  refine Go.back (f' := (mkF m 94 #[.val (.ref go), .val (.int c32), .val (.ref so), .val (.int t32), .val (.int o1), .val (.int l1), .val (.int o2), .val (.int l2), .val (.int o3), .val (.int l3), .val (.int z32)] [(.int o2), (.int l1), (.int o1), (.ref so), (.int t32), (.int z32), (.int (3 : Int32)), (.ref go)])) (fun _ k => XS.iload X64.here hx rfl (hb hby d7_92) rfl k) ?_
  refine Go.back (f' := (mkF m 96 #[.val (.ref go), .val (.int c32), .val (.ref so), .val (.int t32), .val (.int o1), .val (.int l1), .val (.int o2), .val (.int l2), .val (.int o3), .val (.int l3), .val (.int z32)] [(.int l2), (.int o2), (.int l1), (.int o1), (.ref so), (.int t32), (.int z32), (.int (3 : Int32)), (.ref go)])) (fun _ k => XS.iload X64.here hx rfl (hb hby d7_94) rfl k) ?_
  refine Go.back (f' := (mkF m 98 #[.val (.ref go), .val (.int c32), .val (.ref so), .val (.int t32), .val (.int o1), .val (.int l1), .val (.int o2), .val (.int l2), .val (.int o3), .val (.int l3), .val (.int z32)] [(.int o3), (.int l2), (.int o2), (.int l1), (.int o1), (.ref so), (.int t32), (.int z32), (.int (3 : Int32)), (.ref go)])) (fun _ k => XS.iload X64.here hx rfl (hb hby d7_96) rfl k) ?_
  refine Go.callS X64 hx hZ hown (hw _ (List.mem_of_getElem? (i := 41) rfl)) (hw _ (List.mem_of_getElem? (i := 42) rfl)) (hw _ (List.mem_of_getElem? (i := 38) rfl)) (hw _ (List.mem_of_getElem? (i := 43) rfl)) (by decide) hh64 (argsL := [(.ref go), (.int (3 : Int32)), (.int z32), (.int t32), (.ref so), (.int o1), (.int l1), (.int o2), (.int l2), (.int o3)]) (rest := []) (rmAt l Z a0 hw go so (3 : Int32) z32 t32 o1 l1 o2 l2 o3 gs sl 3 W f1 n1 f2 n2 f3 h0 G A ht hW gW ho1 hl1 ho2 hl2 ho3 hs8 hf1 hf2 hf3 HS rfl (by decide) hz) (lenOf pd_3 rfl) rfl (by rw [hml]; rfl) (W := 0) (Nat.le_of_eq rfl) (hb hby d7_98) (by decide) (by decide) (by decide) (by decide) ?_
  intro v65 T65 L65 X65 hQ65
  obtain ⟨rfl, rfl, hh65⟩ := hQ65
  rw [List.append_nil] at X65
  show GoG _ _ _ _ _ (mkF m 101 #[.val (.ref go), .val (.int c32), .val (.ref so), .val (.int t32), .val (.int o1), .val (.int l1), .val (.int o2), .val (.int l2), .val (.int o3), .val (.int l3), .val (.int z32)] [(.int (1 : Int32))])
  refine Go.back (f' := (mkF m 104 #[.val (.ref go), .val (.int c32), .val (.ref so), .val (.int t32), .val (.int o1), .val (.int l1), .val (.int o2), .val (.int l2), .val (.int o3), .val (.int l3), .val (.int z32)] [])) (fun _ k => XS.ifNo X65.here hx rfl (hb hby d7_101) rfl ((if0 _ _).trans (feq (by decide)).1) k) ?_
  refine Go.back (f' := (mkF m 105 #[.val (.ref go), .val (.int c32), .val (.ref so), .val (.int t32), .val (.int o1), .val (.int l1), .val (.int o2), .val (.int l2), .val (.int o3), .val (.int l3), .val (.int z32)] [(.int (1 : Int32))])) (fun _ k => XS.iconst X65.here hx rfl (hb hby d7_104) k) ?_
  refine Go.back (f' := (mkF m 109 #[.val (.ref go), .val (.int c32), .val (.ref so), .val (.int t32), .val (.int o1), .val (.int l1), .val (.int o2), .val (.int l2), .val (.int o3), .val (.int l3), .val (.int z32)] [(.int (1 : Int32))])) (fun _ k => XS.goto X65.here hx rfl (pc0 := 105) (pc' := 109) rfl (hb hby d7_105) (by decide) (by decide) k) ?_
  exact Go.retN X65 hx (t := .boolean) hret (by simp) (w := (1 : Int32)) rfl hlk (hb hby d7_109) (by (try rw [hh65]); exact ⟨rfl, rfl, rfl⟩) (Nat.zero_le _) (Nat.zero_le _)
theorem ef_rm0 (m : MethodId) (x0 : Int64) (x1 : Int32) (x2 : Int32) (x3 : Int32) (x4 : Int32) : entryFrame m #[(.long x0), (.int x1), (.int x2), (.int x3), (.int x4)] maxLocals = mkF m 0 #[.val (.long x0), .second, .val (.int x1), .val (.int x2), .val (.int x3), .val (.int x4), .unset, .unset, .unset, .unset, .unset, .unset, .unset, .unset, .unset, .unset, .unset] [] := by first | (simp [entryFrame, mkF, argsToLocals, Value.category, maxLocals]; done) | rfl
set_option maxRecDepth 65536 in
set_option maxHeartbeats 40000000 in
theorem rm0 (l : Launch) (Z : State) (a0 : Array Value) (hw : ∀ d ∈ tables_1, d.before a0 Z = true) (dd : Int64) (cc w1 w2 w3 : Int32) (h0 : Heap)  :
    Met l Z x code maxLocals ret room_1 #[(.long dd), (.int cc), (.int w1), (.int w2), (.int w3)] h0 (fun v h L => v = some (.int 1) ∧ Fr h0.size L) := by
  refine Met.intro (plainFor_of_name (by first | (simp [plainName, overriddenIn]; done) | decide +kernel)) ?_
  intro p e s m below meth c T0 hx hby hml hown hnm hret hlk hZ X0 e0
  refine Go.cast (ef_rm0 m dd cc w1 w2 w3) ?_
  have hml : c.maxLocals = 17 := hml
  have K0 : Chg h0.size h0 h0 [] [] := Chg.refl (Nat.le_refl _)
  refine Go.back (f' := (mkF m 2 #[.val (.long dd), .second, .val (.int cc), .val (.int w1), .val (.int w2), .val (.int w3), .unset, .unset, .unset, .unset, .unset, .unset, .unset, .unset, .unset, .unset, .unset] [(.int (8 : Int32))])) (fun _ k => XS.bipush X0.here hx rfl (hb hby at_0) k) ?_
  refine Go.newA X0 hx hZ (hw _ (List.mem_of_getElem? (i := 0) rfl)) e0 (hb hby at_2) (i := 8) rfl (cap := 8) (by decide) (by decide) (by decide) (by decide) ?_
  intro T66 h66 so q66 X66 e66 E66 V66
  have V66 : VArr Z h66 so .byte (List.replicate 8 (.int 0)) := V66
  have sz_so := K0.at q66
  have g_so := K0.ge sz_so
  have K_67 := K0.ext E66
  show GoG _ _ _ _ _ (mkF m 4 #[.val (.long dd), .second, .val (.int cc), .val (.int w1), .val (.int w2), .val (.int w3), .unset, .unset, .unset, .unset, .unset, .unset, .unset, .unset, .unset, .unset, .unset] [(.ref so)])
  refine Go.back (f' := (mkF m 6 #[.val (.long dd), .second, .val (.int cc), .val (.int w1), .val (.int w2), .val (.int w3), .val (.ref so), .unset, .unset, .unset, .unset, .unset, .unset, .unset, .unset, .unset, .unset] [])) (fun _ k => XS.astore X66.here hx rfl (hb hby at_4) rfl rfl (l' := #[.val (.long dd), .second, .val (.int cc), .val (.int w1), .val (.int w2), .val (.int w3), .val (.ref so), .unset, .unset, .unset, .unset, .unset, .unset, .unset, .unset, .unset, .unset]) rfl k) ?_
  refine Go.back (f' := (mkF m 8 #[.val (.long dd), .second, .val (.int cc), .val (.int w1), .val (.int w2), .val (.int w3), .val (.ref so), .unset, .unset, .unset, .unset, .unset, .unset, .unset, .unset, .unset, .unset] [(.ref so)])) (fun _ k => XS.aload X66.here hx rfl (hb hby at_6) rfl rfl k) ?_
  refine Go.back (f' := (mkF m 9 #[.val (.long dd), .second, .val (.int cc), .val (.int w1), .val (.int w2), .val (.int w3), .val (.ref so), .unset, .unset, .unset, .unset, .unset, .unset, .unset, .unset, .unset, .unset] [(.int (0 : Int32)), (.ref so)])) (fun _ k => XS.iconst X66.here hx rfl (hb hby at_8) k) ?_
  refine Go.back (f' := (mkF m 10 #[.val (.long dd), .second, .val (.int cc), .val (.int w1), .val (.int w2), .val (.int w3), .val (.ref so), .unset, .unset, .unset, .unset, .unset, .unset, .unset, .unset, .unset, .unset] [(.long dd), (.int (0 : Int32)), (.ref so)])) (fun _ k => XS.lloadN X66.here hx rfl (hb hby at_9) rfl k) ?_
  refine Go.back (f' := (mkF m 11 #[.val (.long dd), .second, .val (.int cc), .val (.int w1), .val (.int w2), .val (.int w3), .val (.ref so), .unset, .unset, .unset, .unset, .unset, .unset, .unset, .unset, .unset, .unset] [(.int (dd.toInt32)), (.int (0 : Int32)), (.ref so)])) (fun _ k => XS.l2i X66.here hx rfl (hb hby at_10) rfl k) ?_
  refine Go.back (f' := (mkF m 12 #[.val (.long dd), .second, .val (.int cc), .val (.int w1), .val (.int w2), .val (.int w3), .val (.ref so), .unset, .unset, .unset, .unset, .unset, .unset, .unset, .unset, .unset, .unset] [(.int ((dd.toInt32).toInt8.toInt32)), (.int (0 : Int32)), (.ref so)])) (fun _ k => XS.i2b X66.here hx rfl (hb hby at_11) rfl k) ?_
  refine Go.stB V66 X66 hx hZ e66 (hb hby at_12) (i := 0) rfl (by simp) ?_
  intro T68 h68 X68 e68 W68 V68
  have K_69 := K_67.wr W68 (Or.inr sz_so) g_so
  show GoG _ _ _ _ _ (mkF m 13 #[.val (.long dd), .second, .val (.int cc), .val (.int w1), .val (.int w2), .val (.int w3), .val (.ref so), .unset, .unset, .unset, .unset, .unset, .unset, .unset, .unset, .unset, .unset] [])
  refine Go.back (f' := (mkF m 15 #[.val (.long dd), .second, .val (.int cc), .val (.int w1), .val (.int w2), .val (.int w3), .val (.ref so), .unset, .unset, .unset, .unset, .unset, .unset, .unset, .unset, .unset, .unset] [(.ref so)])) (fun _ k => XS.aload X68.here hx rfl (hb hby at_13) rfl rfl k) ?_
  refine Go.back (f' := (mkF m 16 #[.val (.long dd), .second, .val (.int cc), .val (.int w1), .val (.int w2), .val (.int w3), .val (.ref so), .unset, .unset, .unset, .unset, .unset, .unset, .unset, .unset, .unset, .unset] [(.int (1 : Int32)), (.ref so)])) (fun _ k => XS.iconst X68.here hx rfl (hb hby at_15) k) ?_
  refine Go.back (f' := (mkF m 17 #[.val (.long dd), .second, .val (.int cc), .val (.int w1), .val (.int w2), .val (.int w3), .val (.ref so), .unset, .unset, .unset, .unset, .unset, .unset, .unset, .unset, .unset, .unset] [(.long dd), (.int (1 : Int32)), (.ref so)])) (fun _ k => XS.lloadN X68.here hx rfl (hb hby at_16) rfl k) ?_
  refine Go.back (f' := (mkF m 19 #[.val (.long dd), .second, .val (.int cc), .val (.int w1), .val (.int w2), .val (.int w3), .val (.ref so), .unset, .unset, .unset, .unset, .unset, .unset, .unset, .unset, .unset, .unset] [(.int (8 : Int32)), (.long dd), (.int (1 : Int32)), (.ref so)])) (fun _ k => XS.bipush X68.here hx rfl (hb hby at_17) k) ?_
  refine Go.back (f' := (mkF m 20 #[.val (.long dd), .second, .val (.int cc), .val (.int w1), .val (.int w2), .val (.int w3), .val (.ref so), .unset, .unset, .unset, .unset, .unset, .unset, .unset, .unset, .unset, .unset] [(.long ((dd.toUInt64 >>> ((8 : Int32) &&& 0x3f).toInt64.toUInt64).toInt64)), (.int (1 : Int32)), (.ref so)])) (fun _ k => XS.lushr X68.here hx rfl (hb hby at_19) rfl k) ?_
  refine Go.back (f' := (mkF m 21 #[.val (.long dd), .second, .val (.int cc), .val (.int w1), .val (.int w2), .val (.int w3), .val (.ref so), .unset, .unset, .unset, .unset, .unset, .unset, .unset, .unset, .unset, .unset] [(.int (((dd.toUInt64 >>> ((8 : Int32) &&& 0x3f).toInt64.toUInt64).toInt64).toInt32)), (.int (1 : Int32)), (.ref so)])) (fun _ k => XS.l2i X68.here hx rfl (hb hby at_20) rfl k) ?_
  refine Go.back (f' := (mkF m 22 #[.val (.long dd), .second, .val (.int cc), .val (.int w1), .val (.int w2), .val (.int w3), .val (.ref so), .unset, .unset, .unset, .unset, .unset, .unset, .unset, .unset, .unset, .unset] [(.int ((((dd.toUInt64 >>> ((8 : Int32) &&& 0x3f).toInt64.toUInt64).toInt64).toInt32).toInt8.toInt32)), (.int (1 : Int32)), (.ref so)])) (fun _ k => XS.i2b X68.here hx rfl (hb hby at_21) rfl k) ?_
  refine Go.stB V68 X68 hx hZ e68 (hb hby at_22) (i := 1) rfl (by simp) ?_
  intro T70 h70 X70 e70 W70 V70
  have K_71 := K_69.wr W70 (Or.inr sz_so) g_so
  show GoG _ _ _ _ _ (mkF m 23 #[.val (.long dd), .second, .val (.int cc), .val (.int w1), .val (.int w2), .val (.int w3), .val (.ref so), .unset, .unset, .unset, .unset, .unset, .unset, .unset, .unset, .unset, .unset] [])
  refine Go.back (f' := (mkF m 25 #[.val (.long dd), .second, .val (.int cc), .val (.int w1), .val (.int w2), .val (.int w3), .val (.ref so), .unset, .unset, .unset, .unset, .unset, .unset, .unset, .unset, .unset, .unset] [(.ref so)])) (fun _ k => XS.aload X70.here hx rfl (hb hby at_23) rfl rfl k) ?_
  refine Go.back (f' := (mkF m 26 #[.val (.long dd), .second, .val (.int cc), .val (.int w1), .val (.int w2), .val (.int w3), .val (.ref so), .unset, .unset, .unset, .unset, .unset, .unset, .unset, .unset, .unset, .unset] [(.int (2 : Int32)), (.ref so)])) (fun _ k => XS.iconst X70.here hx rfl (hb hby at_25) k) ?_
  refine Go.back (f' := (mkF m 27 #[.val (.long dd), .second, .val (.int cc), .val (.int w1), .val (.int w2), .val (.int w3), .val (.ref so), .unset, .unset, .unset, .unset, .unset, .unset, .unset, .unset, .unset, .unset] [(.long dd), (.int (2 : Int32)), (.ref so)])) (fun _ k => XS.lloadN X70.here hx rfl (hb hby at_26) rfl k) ?_
  refine Go.back (f' := (mkF m 29 #[.val (.long dd), .second, .val (.int cc), .val (.int w1), .val (.int w2), .val (.int w3), .val (.ref so), .unset, .unset, .unset, .unset, .unset, .unset, .unset, .unset, .unset, .unset] [(.int (16 : Int32)), (.long dd), (.int (2 : Int32)), (.ref so)])) (fun _ k => XS.bipush X70.here hx rfl (hb hby at_27) k) ?_
  refine Go.back (f' := (mkF m 30 #[.val (.long dd), .second, .val (.int cc), .val (.int w1), .val (.int w2), .val (.int w3), .val (.ref so), .unset, .unset, .unset, .unset, .unset, .unset, .unset, .unset, .unset, .unset] [(.long ((dd.toUInt64 >>> ((16 : Int32) &&& 0x3f).toInt64.toUInt64).toInt64)), (.int (2 : Int32)), (.ref so)])) (fun _ k => XS.lushr X70.here hx rfl (hb hby at_29) rfl k) ?_
  refine Go.back (f' := (mkF m 31 #[.val (.long dd), .second, .val (.int cc), .val (.int w1), .val (.int w2), .val (.int w3), .val (.ref so), .unset, .unset, .unset, .unset, .unset, .unset, .unset, .unset, .unset, .unset] [(.int (((dd.toUInt64 >>> ((16 : Int32) &&& 0x3f).toInt64.toUInt64).toInt64).toInt32)), (.int (2 : Int32)), (.ref so)])) (fun _ k => XS.l2i X70.here hx rfl (hb hby at_30) rfl k) ?_
  refine Go.back (f' := (mkF m 32 #[.val (.long dd), .second, .val (.int cc), .val (.int w1), .val (.int w2), .val (.int w3), .val (.ref so), .unset, .unset, .unset, .unset, .unset, .unset, .unset, .unset, .unset, .unset] [(.int ((((dd.toUInt64 >>> ((16 : Int32) &&& 0x3f).toInt64.toUInt64).toInt64).toInt32).toInt8.toInt32)), (.int (2 : Int32)), (.ref so)])) (fun _ k => XS.i2b X70.here hx rfl (hb hby at_31) rfl k) ?_
  refine Go.stB V70 X70 hx hZ e70 (hb hby at_32) (i := 2) rfl (by simp) ?_
  intro T72 h72 X72 e72 W72 V72
  have K_73 := K_71.wr W72 (Or.inr sz_so) g_so
  show GoG _ _ _ _ _ (mkF m 33 #[.val (.long dd), .second, .val (.int cc), .val (.int w1), .val (.int w2), .val (.int w3), .val (.ref so), .unset, .unset, .unset, .unset, .unset, .unset, .unset, .unset, .unset, .unset] [])
  refine Go.back (f' := (mkF m 35 #[.val (.long dd), .second, .val (.int cc), .val (.int w1), .val (.int w2), .val (.int w3), .val (.ref so), .unset, .unset, .unset, .unset, .unset, .unset, .unset, .unset, .unset, .unset] [(.ref so)])) (fun _ k => XS.aload X72.here hx rfl (hb hby at_33) rfl rfl k) ?_
  refine Go.back (f' := (mkF m 36 #[.val (.long dd), .second, .val (.int cc), .val (.int w1), .val (.int w2), .val (.int w3), .val (.ref so), .unset, .unset, .unset, .unset, .unset, .unset, .unset, .unset, .unset, .unset] [(.int (3 : Int32)), (.ref so)])) (fun _ k => XS.iconst X72.here hx rfl (hb hby at_35) k) ?_
  refine Go.back (f' := (mkF m 37 #[.val (.long dd), .second, .val (.int cc), .val (.int w1), .val (.int w2), .val (.int w3), .val (.ref so), .unset, .unset, .unset, .unset, .unset, .unset, .unset, .unset, .unset, .unset] [(.long dd), (.int (3 : Int32)), (.ref so)])) (fun _ k => XS.lloadN X72.here hx rfl (hb hby at_36) rfl k) ?_
  refine Go.back (f' := (mkF m 39 #[.val (.long dd), .second, .val (.int cc), .val (.int w1), .val (.int w2), .val (.int w3), .val (.ref so), .unset, .unset, .unset, .unset, .unset, .unset, .unset, .unset, .unset, .unset] [(.int (24 : Int32)), (.long dd), (.int (3 : Int32)), (.ref so)])) (fun _ k => XS.bipush X72.here hx rfl (hb hby at_37) k) ?_
  refine Go.back (f' := (mkF m 40 #[.val (.long dd), .second, .val (.int cc), .val (.int w1), .val (.int w2), .val (.int w3), .val (.ref so), .unset, .unset, .unset, .unset, .unset, .unset, .unset, .unset, .unset, .unset] [(.long ((dd.toUInt64 >>> ((24 : Int32) &&& 0x3f).toInt64.toUInt64).toInt64)), (.int (3 : Int32)), (.ref so)])) (fun _ k => XS.lushr X72.here hx rfl (hb hby at_39) rfl k) ?_
  refine Go.back (f' := (mkF m 41 #[.val (.long dd), .second, .val (.int cc), .val (.int w1), .val (.int w2), .val (.int w3), .val (.ref so), .unset, .unset, .unset, .unset, .unset, .unset, .unset, .unset, .unset, .unset] [(.int (((dd.toUInt64 >>> ((24 : Int32) &&& 0x3f).toInt64.toUInt64).toInt64).toInt32)), (.int (3 : Int32)), (.ref so)])) (fun _ k => XS.l2i X72.here hx rfl (hb hby at_40) rfl k) ?_
  refine Go.back (f' := (mkF m 42 #[.val (.long dd), .second, .val (.int cc), .val (.int w1), .val (.int w2), .val (.int w3), .val (.ref so), .unset, .unset, .unset, .unset, .unset, .unset, .unset, .unset, .unset, .unset] [(.int ((((dd.toUInt64 >>> ((24 : Int32) &&& 0x3f).toInt64.toUInt64).toInt64).toInt32).toInt8.toInt32)), (.int (3 : Int32)), (.ref so)])) (fun _ k => XS.i2b X72.here hx rfl (hb hby at_41) rfl k) ?_
  refine Go.stB V72 X72 hx hZ e72 (hb hby at_42) (i := 3) rfl (by simp) ?_
  intro T74 h74 X74 e74 W74 V74
  have K_75 := K_73.wr W74 (Or.inr sz_so) g_so
  show GoG _ _ _ _ _ (mkF m 43 #[.val (.long dd), .second, .val (.int cc), .val (.int w1), .val (.int w2), .val (.int w3), .val (.ref so), .unset, .unset, .unset, .unset, .unset, .unset, .unset, .unset, .unset, .unset] [])
  refine Go.back (f' := (mkF m 45 #[.val (.long dd), .second, .val (.int cc), .val (.int w1), .val (.int w2), .val (.int w3), .val (.ref so), .unset, .unset, .unset, .unset, .unset, .unset, .unset, .unset, .unset, .unset] [(.ref so)])) (fun _ k => XS.aload X74.here hx rfl (hb hby at_43) rfl rfl k) ?_
  refine Go.back (f' := (mkF m 46 #[.val (.long dd), .second, .val (.int cc), .val (.int w1), .val (.int w2), .val (.int w3), .val (.ref so), .unset, .unset, .unset, .unset, .unset, .unset, .unset, .unset, .unset, .unset] [(.int (4 : Int32)), (.ref so)])) (fun _ k => XS.iconst X74.here hx rfl (hb hby at_45) k) ?_
  refine Go.back (f' := (mkF m 47 #[.val (.long dd), .second, .val (.int cc), .val (.int w1), .val (.int w2), .val (.int w3), .val (.ref so), .unset, .unset, .unset, .unset, .unset, .unset, .unset, .unset, .unset, .unset] [(.long dd), (.int (4 : Int32)), (.ref so)])) (fun _ k => XS.lloadN X74.here hx rfl (hb hby at_46) rfl k) ?_
  refine Go.back (f' := (mkF m 49 #[.val (.long dd), .second, .val (.int cc), .val (.int w1), .val (.int w2), .val (.int w3), .val (.ref so), .unset, .unset, .unset, .unset, .unset, .unset, .unset, .unset, .unset, .unset] [(.int (32 : Int32)), (.long dd), (.int (4 : Int32)), (.ref so)])) (fun _ k => XS.bipush X74.here hx rfl (hb hby at_47) k) ?_
  refine Go.back (f' := (mkF m 50 #[.val (.long dd), .second, .val (.int cc), .val (.int w1), .val (.int w2), .val (.int w3), .val (.ref so), .unset, .unset, .unset, .unset, .unset, .unset, .unset, .unset, .unset, .unset] [(.long ((dd.toUInt64 >>> ((32 : Int32) &&& 0x3f).toInt64.toUInt64).toInt64)), (.int (4 : Int32)), (.ref so)])) (fun _ k => XS.lushr X74.here hx rfl (hb hby at_49) rfl k) ?_
  refine Go.back (f' := (mkF m 51 #[.val (.long dd), .second, .val (.int cc), .val (.int w1), .val (.int w2), .val (.int w3), .val (.ref so), .unset, .unset, .unset, .unset, .unset, .unset, .unset, .unset, .unset, .unset] [(.int (((dd.toUInt64 >>> ((32 : Int32) &&& 0x3f).toInt64.toUInt64).toInt64).toInt32)), (.int (4 : Int32)), (.ref so)])) (fun _ k => XS.l2i X74.here hx rfl (hb hby at_50) rfl k) ?_
  refine Go.back (f' := (mkF m 52 #[.val (.long dd), .second, .val (.int cc), .val (.int w1), .val (.int w2), .val (.int w3), .val (.ref so), .unset, .unset, .unset, .unset, .unset, .unset, .unset, .unset, .unset, .unset] [(.int ((((dd.toUInt64 >>> ((32 : Int32) &&& 0x3f).toInt64.toUInt64).toInt64).toInt32).toInt8.toInt32)), (.int (4 : Int32)), (.ref so)])) (fun _ k => XS.i2b X74.here hx rfl (hb hby at_51) rfl k) ?_
  refine Go.stB V74 X74 hx hZ e74 (hb hby at_52) (i := 4) rfl (by simp) ?_
  intro T76 h76 X76 e76 W76 V76
  have K_77 := K_75.wr W76 (Or.inr sz_so) g_so
  show GoG _ _ _ _ _ (mkF m 53 #[.val (.long dd), .second, .val (.int cc), .val (.int w1), .val (.int w2), .val (.int w3), .val (.ref so), .unset, .unset, .unset, .unset, .unset, .unset, .unset, .unset, .unset, .unset] [])
  refine Go.back (f' := (mkF m 55 #[.val (.long dd), .second, .val (.int cc), .val (.int w1), .val (.int w2), .val (.int w3), .val (.ref so), .unset, .unset, .unset, .unset, .unset, .unset, .unset, .unset, .unset, .unset] [(.ref so)])) (fun _ k => XS.aload X76.here hx rfl (hb hby at_53) rfl rfl k) ?_
  refine Go.back (f' := (mkF m 56 #[.val (.long dd), .second, .val (.int cc), .val (.int w1), .val (.int w2), .val (.int w3), .val (.ref so), .unset, .unset, .unset, .unset, .unset, .unset, .unset, .unset, .unset, .unset] [(.int (5 : Int32)), (.ref so)])) (fun _ k => XS.iconst X76.here hx rfl (hb hby at_55) k) ?_
  refine Go.back (f' := (mkF m 57 #[.val (.long dd), .second, .val (.int cc), .val (.int w1), .val (.int w2), .val (.int w3), .val (.ref so), .unset, .unset, .unset, .unset, .unset, .unset, .unset, .unset, .unset, .unset] [(.long dd), (.int (5 : Int32)), (.ref so)])) (fun _ k => XS.lloadN X76.here hx rfl (hb hby at_56) rfl k) ?_
  refine Go.back (f' := (mkF m 59 #[.val (.long dd), .second, .val (.int cc), .val (.int w1), .val (.int w2), .val (.int w3), .val (.ref so), .unset, .unset, .unset, .unset, .unset, .unset, .unset, .unset, .unset, .unset] [(.int (40 : Int32)), (.long dd), (.int (5 : Int32)), (.ref so)])) (fun _ k => XS.bipush X76.here hx rfl (hb hby at_57) k) ?_
  refine Go.back (f' := (mkF m 60 #[.val (.long dd), .second, .val (.int cc), .val (.int w1), .val (.int w2), .val (.int w3), .val (.ref so), .unset, .unset, .unset, .unset, .unset, .unset, .unset, .unset, .unset, .unset] [(.long ((dd.toUInt64 >>> ((40 : Int32) &&& 0x3f).toInt64.toUInt64).toInt64)), (.int (5 : Int32)), (.ref so)])) (fun _ k => XS.lushr X76.here hx rfl (hb hby at_59) rfl k) ?_
  refine Go.back (f' := (mkF m 61 #[.val (.long dd), .second, .val (.int cc), .val (.int w1), .val (.int w2), .val (.int w3), .val (.ref so), .unset, .unset, .unset, .unset, .unset, .unset, .unset, .unset, .unset, .unset] [(.int (((dd.toUInt64 >>> ((40 : Int32) &&& 0x3f).toInt64.toUInt64).toInt64).toInt32)), (.int (5 : Int32)), (.ref so)])) (fun _ k => XS.l2i X76.here hx rfl (hb hby at_60) rfl k) ?_
  refine Go.back (f' := (mkF m 62 #[.val (.long dd), .second, .val (.int cc), .val (.int w1), .val (.int w2), .val (.int w3), .val (.ref so), .unset, .unset, .unset, .unset, .unset, .unset, .unset, .unset, .unset, .unset] [(.int ((((dd.toUInt64 >>> ((40 : Int32) &&& 0x3f).toInt64.toUInt64).toInt64).toInt32).toInt8.toInt32)), (.int (5 : Int32)), (.ref so)])) (fun _ k => XS.i2b X76.here hx rfl (hb hby at_61) rfl k) ?_
  refine Go.stB V76 X76 hx hZ e76 (hb hby at_62) (i := 5) rfl (by simp) ?_
  intro T78 h78 X78 e78 W78 V78
  have K_79 := K_77.wr W78 (Or.inr sz_so) g_so
  show GoG _ _ _ _ _ (mkF m 63 #[.val (.long dd), .second, .val (.int cc), .val (.int w1), .val (.int w2), .val (.int w3), .val (.ref so), .unset, .unset, .unset, .unset, .unset, .unset, .unset, .unset, .unset, .unset] [])
  refine Go.back (f' := (mkF m 65 #[.val (.long dd), .second, .val (.int cc), .val (.int w1), .val (.int w2), .val (.int w3), .val (.ref so), .unset, .unset, .unset, .unset, .unset, .unset, .unset, .unset, .unset, .unset] [(.ref so)])) (fun _ k => XS.aload X78.here hx rfl (hb hby at_63) rfl rfl k) ?_
  refine Go.back (f' := (mkF m 67 #[.val (.long dd), .second, .val (.int cc), .val (.int w1), .val (.int w2), .val (.int w3), .val (.ref so), .unset, .unset, .unset, .unset, .unset, .unset, .unset, .unset, .unset, .unset] [(.int (6 : Int32)), (.ref so)])) (fun _ k => XS.bipush X78.here hx rfl (hb hby at_65) k) ?_
  refine Go.back (f' := (mkF m 68 #[.val (.long dd), .second, .val (.int cc), .val (.int w1), .val (.int w2), .val (.int w3), .val (.ref so), .unset, .unset, .unset, .unset, .unset, .unset, .unset, .unset, .unset, .unset] [(.long dd), (.int (6 : Int32)), (.ref so)])) (fun _ k => XS.lloadN X78.here hx rfl (hb hby at_67) rfl k) ?_
  refine Go.back (f' := (mkF m 70 #[.val (.long dd), .second, .val (.int cc), .val (.int w1), .val (.int w2), .val (.int w3), .val (.ref so), .unset, .unset, .unset, .unset, .unset, .unset, .unset, .unset, .unset, .unset] [(.int (48 : Int32)), (.long dd), (.int (6 : Int32)), (.ref so)])) (fun _ k => XS.bipush X78.here hx rfl (hb hby at_68) k) ?_
  refine Go.back (f' := (mkF m 71 #[.val (.long dd), .second, .val (.int cc), .val (.int w1), .val (.int w2), .val (.int w3), .val (.ref so), .unset, .unset, .unset, .unset, .unset, .unset, .unset, .unset, .unset, .unset] [(.long ((dd.toUInt64 >>> ((48 : Int32) &&& 0x3f).toInt64.toUInt64).toInt64)), (.int (6 : Int32)), (.ref so)])) (fun _ k => XS.lushr X78.here hx rfl (hb hby at_70) rfl k) ?_
  refine Go.back (f' := (mkF m 72 #[.val (.long dd), .second, .val (.int cc), .val (.int w1), .val (.int w2), .val (.int w3), .val (.ref so), .unset, .unset, .unset, .unset, .unset, .unset, .unset, .unset, .unset, .unset] [(.int (((dd.toUInt64 >>> ((48 : Int32) &&& 0x3f).toInt64.toUInt64).toInt64).toInt32)), (.int (6 : Int32)), (.ref so)])) (fun _ k => XS.l2i X78.here hx rfl (hb hby at_71) rfl k) ?_
  refine Go.back (f' := (mkF m 73 #[.val (.long dd), .second, .val (.int cc), .val (.int w1), .val (.int w2), .val (.int w3), .val (.ref so), .unset, .unset, .unset, .unset, .unset, .unset, .unset, .unset, .unset, .unset] [(.int ((((dd.toUInt64 >>> ((48 : Int32) &&& 0x3f).toInt64.toUInt64).toInt64).toInt32).toInt8.toInt32)), (.int (6 : Int32)), (.ref so)])) (fun _ k => XS.i2b X78.here hx rfl (hb hby at_72) rfl k) ?_
  refine Go.stB V78 X78 hx hZ e78 (hb hby at_73) (i := 6) rfl (by simp) ?_
  intro T80 h80 X80 e80 W80 V80
  have K_81 := K_79.wr W80 (Or.inr sz_so) g_so
  show GoG _ _ _ _ _ (mkF m 74 #[.val (.long dd), .second, .val (.int cc), .val (.int w1), .val (.int w2), .val (.int w3), .val (.ref so), .unset, .unset, .unset, .unset, .unset, .unset, .unset, .unset, .unset, .unset] [])
  refine Go.back (f' := (mkF m 76 #[.val (.long dd), .second, .val (.int cc), .val (.int w1), .val (.int w2), .val (.int w3), .val (.ref so), .unset, .unset, .unset, .unset, .unset, .unset, .unset, .unset, .unset, .unset] [(.ref so)])) (fun _ k => XS.aload X80.here hx rfl (hb hby at_74) rfl rfl k) ?_
  refine Go.back (f' := (mkF m 78 #[.val (.long dd), .second, .val (.int cc), .val (.int w1), .val (.int w2), .val (.int w3), .val (.ref so), .unset, .unset, .unset, .unset, .unset, .unset, .unset, .unset, .unset, .unset] [(.int (7 : Int32)), (.ref so)])) (fun _ k => XS.bipush X80.here hx rfl (hb hby at_76) k) ?_
  refine Go.back (f' := (mkF m 79 #[.val (.long dd), .second, .val (.int cc), .val (.int w1), .val (.int w2), .val (.int w3), .val (.ref so), .unset, .unset, .unset, .unset, .unset, .unset, .unset, .unset, .unset, .unset] [(.long dd), (.int (7 : Int32)), (.ref so)])) (fun _ k => XS.lloadN X80.here hx rfl (hb hby at_78) rfl k) ?_
  refine Go.back (f' := (mkF m 81 #[.val (.long dd), .second, .val (.int cc), .val (.int w1), .val (.int w2), .val (.int w3), .val (.ref so), .unset, .unset, .unset, .unset, .unset, .unset, .unset, .unset, .unset, .unset] [(.int (56 : Int32)), (.long dd), (.int (7 : Int32)), (.ref so)])) (fun _ k => XS.bipush X80.here hx rfl (hb hby at_79) k) ?_
  refine Go.back (f' := (mkF m 82 #[.val (.long dd), .second, .val (.int cc), .val (.int w1), .val (.int w2), .val (.int w3), .val (.ref so), .unset, .unset, .unset, .unset, .unset, .unset, .unset, .unset, .unset, .unset] [(.long ((dd.toUInt64 >>> ((56 : Int32) &&& 0x3f).toInt64.toUInt64).toInt64)), (.int (7 : Int32)), (.ref so)])) (fun _ k => XS.lushr X80.here hx rfl (hb hby at_81) rfl k) ?_
  refine Go.back (f' := (mkF m 83 #[.val (.long dd), .second, .val (.int cc), .val (.int w1), .val (.int w2), .val (.int w3), .val (.ref so), .unset, .unset, .unset, .unset, .unset, .unset, .unset, .unset, .unset, .unset] [(.int (((dd.toUInt64 >>> ((56 : Int32) &&& 0x3f).toInt64.toUInt64).toInt64).toInt32)), (.int (7 : Int32)), (.ref so)])) (fun _ k => XS.l2i X80.here hx rfl (hb hby at_82) rfl k) ?_
  refine Go.back (f' := (mkF m 84 #[.val (.long dd), .second, .val (.int cc), .val (.int w1), .val (.int w2), .val (.int w3), .val (.ref so), .unset, .unset, .unset, .unset, .unset, .unset, .unset, .unset, .unset, .unset] [(.int ((((dd.toUInt64 >>> ((56 : Int32) &&& 0x3f).toInt64.toUInt64).toInt64).toInt32).toInt8.toInt32)), (.int (7 : Int32)), (.ref so)])) (fun _ k => XS.i2b X80.here hx rfl (hb hby at_83) rfl k) ?_
  refine Go.stB V80 X80 hx hZ e80 (hb hby at_84) (i := 7) rfl (by simp) ?_
  intro T82 h82 X82 e82 W82 V82
  have K_83 := K_81.wr W82 (Or.inr sz_so) g_so
  show GoG _ _ _ _ _ (mkF m 85 #[.val (.long dd), .second, .val (.int cc), .val (.int w1), .val (.int w2), .val (.int w3), .val (.ref so), .unset, .unset, .unset, .unset, .unset, .unset, .unset, .unset, .unset, .unset] [])
  obtain ⟨sl, Vs, sl8⟩ : ∃ sl : List Int32, VArr Z h82 so .byte (sl.map Value.int) ∧ sl.length = 8 := ⟨[(nar .byte ((dd.toInt32).toInt8.toInt32)), (nar .byte ((((dd.toUInt64 >>> ((8 : Int32) &&& 0x3f).toInt64.toUInt64).toInt64).toInt32).toInt8.toInt32)), (nar .byte ((((dd.toUInt64 >>> ((16 : Int32) &&& 0x3f).toInt64.toUInt64).toInt64).toInt32).toInt8.toInt32)), (nar .byte ((((dd.toUInt64 >>> ((24 : Int32) &&& 0x3f).toInt64.toUInt64).toInt64).toInt32).toInt8.toInt32)), (nar .byte ((((dd.toUInt64 >>> ((32 : Int32) &&& 0x3f).toInt64.toUInt64).toInt64).toInt32).toInt8.toInt32)), (nar .byte ((((dd.toUInt64 >>> ((40 : Int32) &&& 0x3f).toInt64.toUInt64).toInt64).toInt32).toInt8.toInt32)), (nar .byte ((((dd.toUInt64 >>> ((48 : Int32) &&& 0x3f).toInt64.toUInt64).toInt64).toInt32).toInt8.toInt32)), (nar .byte ((((dd.toUInt64 >>> ((56 : Int32) &&& 0x3f).toInt64.toUInt64).toInt64).toInt32).toInt8.toInt32))], V82.to rfl, rfl⟩
  refine Go.back (f' := (mkF m 86 #[.val (.long dd), .second, .val (.int cc), .val (.int w1), .val (.int w2), .val (.int w3), .val (.ref so), .unset, .unset, .unset, .unset, .unset, .unset, .unset, .unset, .unset, .unset] [(.int (1 : Int32))])) (fun _ k => XS.iconst X82.here hx rfl (hb hby at_85) k) ?_
  refine Go.back (f' := (mkF m 87 #[.val (.long dd), .second, .val (.int cc), .val (.int w1), .val (.int w2), .val (.int w3), .val (.ref so), .unset, .unset, .unset, .unset, .unset, .unset, .unset, .unset, .unset, .unset] [(.int cc), (.int (1 : Int32))])) (fun _ k => XS.iloadN X82.here hx rfl (hb hby at_86) rfl k) ?_
  refine Go.back (f' := (mkF m 88 #[.val (.long dd), .second, .val (.int cc), .val (.int w1), .val (.int w2), .val (.int w3), .val (.ref so), .unset, .unset, .unset, .unset, .unset, .unset, .unset, .unset, .unset, .unset] [(.int (3 : Int32)), (.int cc), (.int (1 : Int32))])) (fun _ k => XS.iconst X82.here hx rfl (hb hby at_87) k) ?_
  refine Go.back (f' := (mkF m 89 #[.val (.long dd), .second, .val (.int cc), .val (.int w1), .val (.int w2), .val (.int w3), .val (.ref so), .unset, .unset, .unset, .unset, .unset, .unset, .unset, .unset, .unset, .unset] [(.int (cc &&& (3 : Int32))), (.int (1 : Int32))])) (fun _ k => XS.iand X82.here hx rfl (hb hby at_88) rfl k) ?_
  refine Go.back (f' := (mkF m 90 #[.val (.long dd), .second, .val (.int cc), .val (.int w1), .val (.int w2), .val (.int w3), .val (.ref so), .unset, .unset, .unset, .unset, .unset, .unset, .unset, .unset, .unset, .unset] [(.int ((1 : Int32) + (cc &&& (3 : Int32))))])) (fun _ k => XS.iadd X82.here hx rfl (hb hby at_89) rfl k) ?_
  obtain ⟨ci, hci, c4⟩ := own_m cc 3 2 (by decide) (by decide)
  have hc := add_nat (show (1 : Int32).toInt = ((1 : Nat) : Int) from rfl) hci (by omega)
  generalize ec : ((1 : Int32) + (cc &&& (3 : Int32))) = c32
  rw [ec] at hc
  refine Go.back (f' := (mkF m 92 #[.val (.long dd), .second, .val (.int cc), .val (.int w1), .val (.int w2), .val (.int w3), .val (.ref so), .val (.int c32), .unset, .unset, .unset, .unset, .unset, .unset, .unset, .unset, .unset] [])) (fun _ k => XS.istore X82.here hx rfl (hb hby at_90) rfl (l' := #[.val (.long dd), .second, .val (.int cc), .val (.int w1), .val (.int w2), .val (.int w3), .val (.ref so), .val (.int c32), .unset, .unset, .unset, .unset, .unset, .unset, .unset, .unset, .unset]) rfl k) ?_
  refine Go.back (f' := (mkF m 93 #[.val (.long dd), .second, .val (.int cc), .val (.int w1), .val (.int w2), .val (.int w3), .val (.ref so), .val (.int c32), .unset, .unset, .unset, .unset, .unset, .unset, .unset, .unset, .unset] [(.int w1)])) (fun _ k => XS.iloadN X82.here hx rfl (hb hby at_92) rfl k) ?_
  refine Go.back (f' := (mkF m 94 #[.val (.long dd), .second, .val (.int cc), .val (.int w1), .val (.int w2), .val (.int w3), .val (.ref so), .val (.int c32), .unset, .unset, .unset, .unset, .unset, .unset, .unset, .unset, .unset] [(.int (3 : Int32)), (.int w1)])) (fun _ k => XS.iconst X82.here hx rfl (hb hby at_93) k) ?_
  refine Go.back (f' := (mkF m 95 #[.val (.long dd), .second, .val (.int cc), .val (.int w1), .val (.int w2), .val (.int w3), .val (.ref so), .val (.int c32), .unset, .unset, .unset, .unset, .unset, .unset, .unset, .unset, .unset] [(.int (w1 &&& (3 : Int32)))])) (fun _ k => XS.iand X82.here hx rfl (hb hby at_94) rfl k) ?_
  obtain ⟨f1, hf1, bf1⟩ := own_m w1 3 2 (by decide) (by decide)
  generalize eo1 : (w1 &&& (3 : Int32)) = o1
  rw [eo1] at hf1
  refine Go.back (f' := (mkF m 97 #[.val (.long dd), .second, .val (.int cc), .val (.int w1), .val (.int w2), .val (.int w3), .val (.ref so), .val (.int c32), .val (.int o1), .unset, .unset, .unset, .unset, .unset, .unset, .unset, .unset] [])) (fun _ k => XS.istore X82.here hx rfl (hb hby at_95) rfl (l' := #[.val (.long dd), .second, .val (.int cc), .val (.int w1), .val (.int w2), .val (.int w3), .val (.ref so), .val (.int c32), .val (.int o1), .unset, .unset, .unset, .unset, .unset, .unset, .unset, .unset]) rfl k) ?_
  refine Go.back (f' := (mkF m 98 #[.val (.long dd), .second, .val (.int cc), .val (.int w1), .val (.int w2), .val (.int w3), .val (.ref so), .val (.int c32), .val (.int o1), .unset, .unset, .unset, .unset, .unset, .unset, .unset, .unset] [(.int w1)])) (fun _ k => XS.iloadN X82.here hx rfl (hb hby at_97) rfl k) ?_
  refine Go.back (f' := (mkF m 99 #[.val (.long dd), .second, .val (.int cc), .val (.int w1), .val (.int w2), .val (.int w3), .val (.ref so), .val (.int c32), .val (.int o1), .unset, .unset, .unset, .unset, .unset, .unset, .unset, .unset] [(.int (2 : Int32)), (.int w1)])) (fun _ k => XS.iconst X82.here hx rfl (hb hby at_98) k) ?_
  refine Go.back (f' := (mkF m 100 #[.val (.long dd), .second, .val (.int cc), .val (.int w1), .val (.int w2), .val (.int w3), .val (.ref so), .val (.int c32), .val (.int o1), .unset, .unset, .unset, .unset, .unset, .unset, .unset, .unset] [(.int ((w1.toUInt32 >>> ((2 : Int32) &&& 31).toUInt32).toInt32))])) (fun _ k => XS.iushr X82.here hx rfl (hb hby at_99) rfl k) ?_
  refine Go.back (f' := (mkF m 102 #[.val (.long dd), .second, .val (.int cc), .val (.int w1), .val (.int w2), .val (.int w3), .val (.ref so), .val (.int c32), .val (.int o1), .unset, .unset, .unset, .unset, .unset, .unset, .unset, .unset] [(.int (2147483647 : Int32)), (.int ((w1.toUInt32 >>> ((2 : Int32) &&& 31).toUInt32).toInt32))])) (fun _ k => X82.ldcInt hx hown (mvT hZ (hw _ (List.mem_of_getElem? (i := 1) rfl))) (g := (mkF m 100 #[.val (.long dd), .second, .val (.int cc), .val (.int w1), .val (.int w2), .val (.int w3), .val (.ref so), .val (.int c32), .val (.int o1), .unset, .unset, .unset, .unset, .unset, .unset, .unset, .unset] [(.int ((w1.toUInt32 >>> ((2 : Int32) &&& 31).toUInt32).toInt32))])) rfl (hb hby at_100) _ k) ?_
  refine Go.back (f' := (mkF m 103 #[.val (.long dd), .second, .val (.int cc), .val (.int w1), .val (.int w2), .val (.int w3), .val (.ref so), .val (.int c32), .val (.int o1), .unset, .unset, .unset, .unset, .unset, .unset, .unset, .unset] [(.int (((w1.toUInt32 >>> ((2 : Int32) &&& 31).toUInt32).toInt32) &&& (2147483647 : Int32)))])) (fun _ k => XS.iand X82.here hx rfl (hb hby at_102) rfl k) ?_
  refine Go.back (f' := (mkF m 105 #[.val (.long dd), .second, .val (.int cc), .val (.int w1), .val (.int w2), .val (.int w3), .val (.ref so), .val (.int c32), .val (.int o1), .unset, .unset, .unset, .unset, .unset, .unset, .unset, .unset] [(.int (6 : Int32)), (.int (((w1.toUInt32 >>> ((2 : Int32) &&& 31).toUInt32).toInt32) &&& (2147483647 : Int32)))])) (fun _ k => XS.bipush X82.here hx rfl (hb hby at_103) k) ?_
  refine Go.back (f' := (mkF m 106 #[.val (.long dd), .second, .val (.int cc), .val (.int w1), .val (.int w2), .val (.int w3), .val (.ref so), .val (.int c32), .val (.int o1), .unset, .unset, .unset, .unset, .unset, .unset, .unset, .unset] [(.int ((((w1.toUInt32 >>> ((2 : Int32) &&& 31).toUInt32).toInt32) &&& (2147483647 : Int32)) % (6 : Int32)))])) (fun _ k => iremM X82 hx rfl (hb hby at_105) rfl (by decide) k) ?_
  obtain ⟨mo1, hmo1⟩ := own_ushr w1 2 2 2 (by decide)
  have hn1 := irem_nat hmo1 (show (6 : Int32).toInt = ((6 : Nat) : Int) from rfl)
  have bn1 := Nat.mod_lt mo1 (show 0 < 6 by omega)
  generalize el1 : ((((w1.toUInt32 >>> ((2 : Int32) &&& 31).toUInt32).toInt32) &&& (2147483647 : Int32)) % (6 : Int32)) = l1
  rw [el1] at hn1
  generalize mo1 % 6 = n1 at hn1 bn1
  refine Go.back (f' := (mkF m 108 #[.val (.long dd), .second, .val (.int cc), .val (.int w1), .val (.int w2), .val (.int w3), .val (.ref so), .val (.int c32), .val (.int o1), .val (.int l1), .unset, .unset, .unset, .unset, .unset, .unset, .unset] [])) (fun _ k => XS.istore X82.here hx rfl (hb hby at_106) rfl (l' := #[.val (.long dd), .second, .val (.int cc), .val (.int w1), .val (.int w2), .val (.int w3), .val (.ref so), .val (.int c32), .val (.int o1), .val (.int l1), .unset, .unset, .unset, .unset, .unset, .unset, .unset]) rfl k) ?_
  refine Go.back (f' := (mkF m 110 #[.val (.long dd), .second, .val (.int cc), .val (.int w1), .val (.int w2), .val (.int w3), .val (.ref so), .val (.int c32), .val (.int o1), .val (.int l1), .unset, .unset, .unset, .unset, .unset, .unset, .unset] [(.int w2)])) (fun _ k => XS.iload X82.here hx rfl (hb hby at_108) rfl k) ?_
  refine Go.back (f' := (mkF m 111 #[.val (.long dd), .second, .val (.int cc), .val (.int w1), .val (.int w2), .val (.int w3), .val (.ref so), .val (.int c32), .val (.int o1), .val (.int l1), .unset, .unset, .unset, .unset, .unset, .unset, .unset] [(.int (3 : Int32)), (.int w2)])) (fun _ k => XS.iconst X82.here hx rfl (hb hby at_110) k) ?_
  refine Go.back (f' := (mkF m 112 #[.val (.long dd), .second, .val (.int cc), .val (.int w1), .val (.int w2), .val (.int w3), .val (.ref so), .val (.int c32), .val (.int o1), .val (.int l1), .unset, .unset, .unset, .unset, .unset, .unset, .unset] [(.int (w2 &&& (3 : Int32)))])) (fun _ k => XS.iand X82.here hx rfl (hb hby at_111) rfl k) ?_
  obtain ⟨f2, hf2, bf2⟩ := own_m w2 3 2 (by decide) (by decide)
  generalize eo2 : (w2 &&& (3 : Int32)) = o2
  rw [eo2] at hf2
  refine Go.back (f' := (mkF m 114 #[.val (.long dd), .second, .val (.int cc), .val (.int w1), .val (.int w2), .val (.int w3), .val (.ref so), .val (.int c32), .val (.int o1), .val (.int l1), .val (.int o2), .unset, .unset, .unset, .unset, .unset, .unset] [])) (fun _ k => XS.istore X82.here hx rfl (hb hby at_112) rfl (l' := #[.val (.long dd), .second, .val (.int cc), .val (.int w1), .val (.int w2), .val (.int w3), .val (.ref so), .val (.int c32), .val (.int o1), .val (.int l1), .val (.int o2), .unset, .unset, .unset, .unset, .unset, .unset]) rfl k) ?_
  refine Go.back (f' := (mkF m 116 #[.val (.long dd), .second, .val (.int cc), .val (.int w1), .val (.int w2), .val (.int w3), .val (.ref so), .val (.int c32), .val (.int o1), .val (.int l1), .val (.int o2), .unset, .unset, .unset, .unset, .unset, .unset] [(.int w2)])) (fun _ k => XS.iload X82.here hx rfl (hb hby at_114) rfl k) ?_
  refine Go.back (f' := (mkF m 117 #[.val (.long dd), .second, .val (.int cc), .val (.int w1), .val (.int w2), .val (.int w3), .val (.ref so), .val (.int c32), .val (.int o1), .val (.int l1), .val (.int o2), .unset, .unset, .unset, .unset, .unset, .unset] [(.int (2 : Int32)), (.int w2)])) (fun _ k => XS.iconst X82.here hx rfl (hb hby at_116) k) ?_
  refine Go.back (f' := (mkF m 118 #[.val (.long dd), .second, .val (.int cc), .val (.int w1), .val (.int w2), .val (.int w3), .val (.ref so), .val (.int c32), .val (.int o1), .val (.int l1), .val (.int o2), .unset, .unset, .unset, .unset, .unset, .unset] [(.int ((w2.toUInt32 >>> ((2 : Int32) &&& 31).toUInt32).toInt32))])) (fun _ k => XS.iushr X82.here hx rfl (hb hby at_117) rfl k) ?_
  refine Go.back (f' := (mkF m 120 #[.val (.long dd), .second, .val (.int cc), .val (.int w1), .val (.int w2), .val (.int w3), .val (.ref so), .val (.int c32), .val (.int o1), .val (.int l1), .val (.int o2), .unset, .unset, .unset, .unset, .unset, .unset] [(.int (2147483647 : Int32)), (.int ((w2.toUInt32 >>> ((2 : Int32) &&& 31).toUInt32).toInt32))])) (fun _ k => X82.ldcInt hx hown (mvT hZ (hw _ (List.mem_of_getElem? (i := 1) rfl))) (g := (mkF m 118 #[.val (.long dd), .second, .val (.int cc), .val (.int w1), .val (.int w2), .val (.int w3), .val (.ref so), .val (.int c32), .val (.int o1), .val (.int l1), .val (.int o2), .unset, .unset, .unset, .unset, .unset, .unset] [(.int ((w2.toUInt32 >>> ((2 : Int32) &&& 31).toUInt32).toInt32))])) rfl (hb hby at_118) _ k) ?_
  refine Go.back (f' := (mkF m 121 #[.val (.long dd), .second, .val (.int cc), .val (.int w1), .val (.int w2), .val (.int w3), .val (.ref so), .val (.int c32), .val (.int o1), .val (.int l1), .val (.int o2), .unset, .unset, .unset, .unset, .unset, .unset] [(.int (((w2.toUInt32 >>> ((2 : Int32) &&& 31).toUInt32).toInt32) &&& (2147483647 : Int32)))])) (fun _ k => XS.iand X82.here hx rfl (hb hby at_120) rfl k) ?_
  refine Go.back (f' := (mkF m 123 #[.val (.long dd), .second, .val (.int cc), .val (.int w1), .val (.int w2), .val (.int w3), .val (.ref so), .val (.int c32), .val (.int o1), .val (.int l1), .val (.int o2), .unset, .unset, .unset, .unset, .unset, .unset] [(.int (6 : Int32)), (.int (((w2.toUInt32 >>> ((2 : Int32) &&& 31).toUInt32).toInt32) &&& (2147483647 : Int32)))])) (fun _ k => XS.bipush X82.here hx rfl (hb hby at_121) k) ?_
  refine Go.back (f' := (mkF m 124 #[.val (.long dd), .second, .val (.int cc), .val (.int w1), .val (.int w2), .val (.int w3), .val (.ref so), .val (.int c32), .val (.int o1), .val (.int l1), .val (.int o2), .unset, .unset, .unset, .unset, .unset, .unset] [(.int ((((w2.toUInt32 >>> ((2 : Int32) &&& 31).toUInt32).toInt32) &&& (2147483647 : Int32)) % (6 : Int32)))])) (fun _ k => iremM X82 hx rfl (hb hby at_123) rfl (by decide) k) ?_
  obtain ⟨mo2, hmo2⟩ := own_ushr w2 2 2 2 (by decide)
  have hn2 := irem_nat hmo2 (show (6 : Int32).toInt = ((6 : Nat) : Int) from rfl)
  have bn2 := Nat.mod_lt mo2 (show 0 < 6 by omega)
  generalize el2 : ((((w2.toUInt32 >>> ((2 : Int32) &&& 31).toUInt32).toInt32) &&& (2147483647 : Int32)) % (6 : Int32)) = l2
  rw [el2] at hn2
  generalize mo2 % 6 = n2 at hn2 bn2
  refine Go.back (f' := (mkF m 126 #[.val (.long dd), .second, .val (.int cc), .val (.int w1), .val (.int w2), .val (.int w3), .val (.ref so), .val (.int c32), .val (.int o1), .val (.int l1), .val (.int o2), .val (.int l2), .unset, .unset, .unset, .unset, .unset] [])) (fun _ k => XS.istore X82.here hx rfl (hb hby at_124) rfl (l' := #[.val (.long dd), .second, .val (.int cc), .val (.int w1), .val (.int w2), .val (.int w3), .val (.ref so), .val (.int c32), .val (.int o1), .val (.int l1), .val (.int o2), .val (.int l2), .unset, .unset, .unset, .unset, .unset]) rfl k) ?_
  refine Go.back (f' := (mkF m 128 #[.val (.long dd), .second, .val (.int cc), .val (.int w1), .val (.int w2), .val (.int w3), .val (.ref so), .val (.int c32), .val (.int o1), .val (.int l1), .val (.int o2), .val (.int l2), .unset, .unset, .unset, .unset, .unset] [(.int w3)])) (fun _ k => XS.iload X82.here hx rfl (hb hby at_126) rfl k) ?_
  refine Go.back (f' := (mkF m 129 #[.val (.long dd), .second, .val (.int cc), .val (.int w1), .val (.int w2), .val (.int w3), .val (.ref so), .val (.int c32), .val (.int o1), .val (.int l1), .val (.int o2), .val (.int l2), .unset, .unset, .unset, .unset, .unset] [(.int (3 : Int32)), (.int w3)])) (fun _ k => XS.iconst X82.here hx rfl (hb hby at_128) k) ?_
  refine Go.back (f' := (mkF m 130 #[.val (.long dd), .second, .val (.int cc), .val (.int w1), .val (.int w2), .val (.int w3), .val (.ref so), .val (.int c32), .val (.int o1), .val (.int l1), .val (.int o2), .val (.int l2), .unset, .unset, .unset, .unset, .unset] [(.int (w3 &&& (3 : Int32)))])) (fun _ k => XS.iand X82.here hx rfl (hb hby at_129) rfl k) ?_
  obtain ⟨f3, hf3, bf3⟩ := own_m w3 3 2 (by decide) (by decide)
  generalize eo3 : (w3 &&& (3 : Int32)) = o3
  rw [eo3] at hf3
  refine Go.back (f' := (mkF m 132 #[.val (.long dd), .second, .val (.int cc), .val (.int w1), .val (.int w2), .val (.int w3), .val (.ref so), .val (.int c32), .val (.int o1), .val (.int l1), .val (.int o2), .val (.int l2), .val (.int o3), .unset, .unset, .unset, .unset] [])) (fun _ k => XS.istore X82.here hx rfl (hb hby at_130) rfl (l' := #[.val (.long dd), .second, .val (.int cc), .val (.int w1), .val (.int w2), .val (.int w3), .val (.ref so), .val (.int c32), .val (.int o1), .val (.int l1), .val (.int o2), .val (.int l2), .val (.int o3), .unset, .unset, .unset, .unset]) rfl k) ?_
  refine Go.back (f' := (mkF m 134 #[.val (.long dd), .second, .val (.int cc), .val (.int w1), .val (.int w2), .val (.int w3), .val (.ref so), .val (.int c32), .val (.int o1), .val (.int l1), .val (.int o2), .val (.int l2), .val (.int o3), .unset, .unset, .unset, .unset] [(.int w3)])) (fun _ k => XS.iload X82.here hx rfl (hb hby at_132) rfl k) ?_
  refine Go.back (f' := (mkF m 135 #[.val (.long dd), .second, .val (.int cc), .val (.int w1), .val (.int w2), .val (.int w3), .val (.ref so), .val (.int c32), .val (.int o1), .val (.int l1), .val (.int o2), .val (.int l2), .val (.int o3), .unset, .unset, .unset, .unset] [(.int (2 : Int32)), (.int w3)])) (fun _ k => XS.iconst X82.here hx rfl (hb hby at_134) k) ?_
  refine Go.back (f' := (mkF m 136 #[.val (.long dd), .second, .val (.int cc), .val (.int w1), .val (.int w2), .val (.int w3), .val (.ref so), .val (.int c32), .val (.int o1), .val (.int l1), .val (.int o2), .val (.int l2), .val (.int o3), .unset, .unset, .unset, .unset] [(.int ((w3.toUInt32 >>> ((2 : Int32) &&& 31).toUInt32).toInt32))])) (fun _ k => XS.iushr X82.here hx rfl (hb hby at_135) rfl k) ?_
  refine Go.back (f' := (mkF m 138 #[.val (.long dd), .second, .val (.int cc), .val (.int w1), .val (.int w2), .val (.int w3), .val (.ref so), .val (.int c32), .val (.int o1), .val (.int l1), .val (.int o2), .val (.int l2), .val (.int o3), .unset, .unset, .unset, .unset] [(.int (2147483647 : Int32)), (.int ((w3.toUInt32 >>> ((2 : Int32) &&& 31).toUInt32).toInt32))])) (fun _ k => X82.ldcInt hx hown (mvT hZ (hw _ (List.mem_of_getElem? (i := 1) rfl))) (g := (mkF m 136 #[.val (.long dd), .second, .val (.int cc), .val (.int w1), .val (.int w2), .val (.int w3), .val (.ref so), .val (.int c32), .val (.int o1), .val (.int l1), .val (.int o2), .val (.int l2), .val (.int o3), .unset, .unset, .unset, .unset] [(.int ((w3.toUInt32 >>> ((2 : Int32) &&& 31).toUInt32).toInt32))])) rfl (hb hby at_136) _ k) ?_
  refine Go.back (f' := (mkF m 139 #[.val (.long dd), .second, .val (.int cc), .val (.int w1), .val (.int w2), .val (.int w3), .val (.ref so), .val (.int c32), .val (.int o1), .val (.int l1), .val (.int o2), .val (.int l2), .val (.int o3), .unset, .unset, .unset, .unset] [(.int (((w3.toUInt32 >>> ((2 : Int32) &&& 31).toUInt32).toInt32) &&& (2147483647 : Int32)))])) (fun _ k => XS.iand X82.here hx rfl (hb hby at_138) rfl k) ?_
  refine Go.back (f' := (mkF m 141 #[.val (.long dd), .second, .val (.int cc), .val (.int w1), .val (.int w2), .val (.int w3), .val (.ref so), .val (.int c32), .val (.int o1), .val (.int l1), .val (.int o2), .val (.int l2), .val (.int o3), .unset, .unset, .unset, .unset] [(.int (6 : Int32)), (.int (((w3.toUInt32 >>> ((2 : Int32) &&& 31).toUInt32).toInt32) &&& (2147483647 : Int32)))])) (fun _ k => XS.bipush X82.here hx rfl (hb hby at_139) k) ?_
  refine Go.back (f' := (mkF m 142 #[.val (.long dd), .second, .val (.int cc), .val (.int w1), .val (.int w2), .val (.int w3), .val (.ref so), .val (.int c32), .val (.int o1), .val (.int l1), .val (.int o2), .val (.int l2), .val (.int o3), .unset, .unset, .unset, .unset] [(.int ((((w3.toUInt32 >>> ((2 : Int32) &&& 31).toUInt32).toInt32) &&& (2147483647 : Int32)) % (6 : Int32)))])) (fun _ k => iremM X82 hx rfl (hb hby at_141) rfl (by decide) k) ?_
  obtain ⟨mo3, hmo3⟩ := own_ushr w3 2 2 2 (by decide)
  have hn3 := irem_nat hmo3 (show (6 : Int32).toInt = ((6 : Nat) : Int) from rfl)
  have bn3 := Nat.mod_lt mo3 (show 0 < 6 by omega)
  generalize el3 : ((((w3.toUInt32 >>> ((2 : Int32) &&& 31).toUInt32).toInt32) &&& (2147483647 : Int32)) % (6 : Int32)) = l3
  rw [el3] at hn3
  generalize mo3 % 6 = n3 at hn3 bn3
  refine Go.back (f' := (mkF m 144 #[.val (.long dd), .second, .val (.int cc), .val (.int w1), .val (.int w2), .val (.int w3), .val (.ref so), .val (.int c32), .val (.int o1), .val (.int l1), .val (.int o2), .val (.int l2), .val (.int o3), .val (.int l3), .unset, .unset, .unset] [])) (fun _ k => XS.istore X82.here hx rfl (hb hby at_142) rfl (l' := #[.val (.long dd), .second, .val (.int cc), .val (.int w1), .val (.int w2), .val (.int w3), .val (.ref so), .val (.int c32), .val (.int o1), .val (.int l1), .val (.int o2), .val (.int l2), .val (.int o3), .val (.int l3), .unset, .unset, .unset]) rfl k) ?_
  obtain ⟨T84, h84, X84, e84, E84, A84, D84, -, st84⟩ := newO X82 hx hZ hown (hw _ (List.mem_of_getElem? (i := 2) rfl)) (hw _ (List.mem_of_getElem? (i := 3) rfl)) (hw _ (List.mem_of_getElem? (i := 4) rfl)) e82 (g := (mkF m 144 #[.val (.long dd), .second, .val (.int cc), .val (.int w1), .val (.int w2), .val (.int w3), .val (.ref so), .val (.int c32), .val (.int o1), .val (.int l1), .val (.int o2), .val (.int l2), .val (.int o3), .val (.int l3), .unset, .unset, .unset] [])) rfl (hb hby at_144) (by decide) (by decide)
  obtain ⟨to, q84⟩ : ∃ z, z = h82.size := ⟨_, rfl⟩
  rw [← q84] at A84 D84 st84
  have ne_so_to : so ≠ to := lt_ne q84 Vs.lt
  have sz_to := K_83.at q84
  have g_to := K_83.ge sz_to
  have Ar_85 := Vs.ext E84
  have K_86 := K_83.ext E84
  have Fl_87 : Fld Z h84 to "com/example/chore_scheduler/chorescheduler/exec/OutputTail" "ring" "[B" .null := D84 (Or.inr (hw _ (List.mem_of_getElem? (i := 12) rfl))) (ty := (.array .byte)) (by decide)
  have Fl_88 : Fld Z h84 to "com/example/chore_scheduler/chorescheduler/exec/OutputTail" "written" "J" (.long (0 : Int64)) := D84 (Or.inl (hw _ (List.mem_of_getElem? (i := 19) rfl))) (ty := .long) (by decide)
  refine Go.back (f' := (mkF m 147 #[.val (.long dd), .second, .val (.int cc), .val (.int w1), .val (.int w2), .val (.int w3), .val (.ref so), .val (.int c32), .val (.int o1), .val (.int l1), .val (.int o2), .val (.int l2), .val (.int o3), .val (.int l3), .unset, .unset, .unset] [(.ref to)])) st84 ?_
  refine Go.back (f' := (mkF m 148 #[.val (.long dd), .second, .val (.int cc), .val (.int w1), .val (.int w2), .val (.int w3), .val (.ref so), .val (.int c32), .val (.int o1), .val (.int l1), .val (.int o2), .val (.int l2), .val (.int o3), .val (.int l3), .unset, .unset, .unset] [(.ref to), (.ref to)])) (fun _ k => XS.dup X84.here hx rfl (hb hby at_147) rfl rfl k) ?_
  refine Go.back (f' := (mkF m 150 #[.val (.long dd), .second, .val (.int cc), .val (.int w1), .val (.int w2), .val (.int w3), .val (.ref so), .val (.int c32), .val (.int o1), .val (.int l1), .val (.int o2), .val (.int l2), .val (.int o3), .val (.int l3), .unset, .unset, .unset] [(.int c32), (.ref to), (.ref to)])) (fun _ k => XS.iload X84.here hx rfl (hb hby at_148) rfl k) ?_
  refine Go.callI X84 hx hZ rfl hown (hw _ (List.mem_of_getElem? (i := 5) rfl)) (hw _ (List.mem_of_getElem? (i := 6) rfl)) (hw _ (List.mem_of_getElem? (i := 4) rfl)) (hw _ (List.mem_of_getElem? (i := 7) rfl)) (by decide) e84 (a := to) (argsL := [(.int c32)]) (rest := [(.ref to)]) (rmIni l Z a0 hw to c32 (1 + ci) h0.size h84 K_86.size A84 Fl_88 Fl_87 hc (by omega) (by omega) g_to) (lenOf pd_4 rfl) rfl (by rw [hml]; rfl) (W := 1) (Nat.le_of_eq rfl) (hb hby at_150) (by decide) (by decide) (by decide) (by decide) ?_
  intro v89 T89 L89 X89 hQ89
  obtain ⟨rfl, C89, ring, rs0, za89, hrl, R0⟩ := hQ89
  have sz_ring := Nat.le_trans K_86.grow za89
  have g_ring : h0.size ≤ ring := sz_ring
  have ne_so_ring : so ≠ ring := Nat.ne_of_lt (Nat.lt_of_lt_of_le Ar_85.lt za89)
  have Ar_90 := Ar_85.keep C89.keep (ninS ne_so_to nin0)
  have K_91 := K_86.call C89 (allS (Or.inr sz_to) all0)
  show GoG _ _ _ _ _ (mkF m 153 #[.val (.long dd), .second, .val (.int cc), .val (.int w1), .val (.int w2), .val (.int w3), .val (.ref so), .val (.int c32), .val (.int o1), .val (.int l1), .val (.int o2), .val (.int l2), .val (.int o3), .val (.int l3), .unset, .unset, .unset] [(.ref to)])
  refine Go.back (f' := (mkF m 155 #[.val (.long dd), .second, .val (.int cc), .val (.int w1), .val (.int w2), .val (.int w3), .val (.ref so), .val (.int c32), .val (.int o1), .val (.int l1), .val (.int o2), .val (.int l2), .val (.int o3), .val (.int l3), .val (.ref to), .unset, .unset] [])) (fun _ k => XS.astore X89.here hx rfl (hb hby at_153) rfl rfl (l' := #[.val (.long dd), .second, .val (.int cc), .val (.int w1), .val (.int w2), .val (.int w3), .val (.ref so), .val (.int c32), .val (.int o1), .val (.int l1), .val (.int o2), .val (.int l2), .val (.int o3), .val (.int l3), .val (.ref to), .unset, .unset]) rfl k) ?_
  refine Go.back (f' := (mkF m 157 #[.val (.long dd), .second, .val (.int cc), .val (.int w1), .val (.int w2), .val (.int w3), .val (.ref so), .val (.int c32), .val (.int o1), .val (.int l1), .val (.int o2), .val (.int l2), .val (.int o3), .val (.int l3), .val (.ref to), .unset, .unset] [(.ref to)])) (fun _ k => XS.aload X89.here hx rfl (hb hby at_155) rfl rfl k) ?_
  refine Go.back (f' := (mkF m 159 #[.val (.long dd), .second, .val (.int cc), .val (.int w1), .val (.int w2), .val (.int w3), .val (.ref so), .val (.int c32), .val (.int o1), .val (.int l1), .val (.int o2), .val (.int l2), .val (.int o3), .val (.int l3), .val (.ref to), .unset, .unset] [(.ref so), (.ref to)])) (fun _ k => XS.aload X89.here hx rfl (hb hby at_157) rfl rfl k) ?_
  refine Go.back (f' := (mkF m 161 #[.val (.long dd), .second, .val (.int cc), .val (.int w1), .val (.int w2), .val (.int w3), .val (.ref so), .val (.int c32), .val (.int o1), .val (.int l1), .val (.int o2), .val (.int l2), .val (.int o3), .val (.int l3), .val (.ref to), .unset, .unset] [(.int o1), (.ref so), (.ref to)])) (fun _ k => XS.iload X89.here hx rfl (hb hby at_159) rfl k) ?_
  refine Go.back (f' := (mkF m 163 #[.val (.long dd), .second, .val (.int cc), .val (.int w1), .val (.int w2), .val (.int w3), .val (.ref so), .val (.int c32), .val (.int o1), .val (.int l1), .val (.int o2), .val (.int l2), .val (.int o3), .val (.int l3), .val (.ref to), .unset, .unset] [(.int l1), (.int o1), (.ref so), (.ref to)])) (fun _ k => XS.iload X89.here hx rfl (hb hby at_161) rfl k) ?_
  refine Go.callV X89 hx hZ hown (hw _ (List.mem_of_getElem? (i := 13) rfl)) (hw _ (List.mem_of_getElem? (i := 14) rfl)) (hw _ (List.mem_of_getElem? (i := 16) rfl)) (hw _ (List.mem_of_getElem? (i := 15) rfl)) (hw _ (List.mem_of_getElem? (i := 4) rfl)) (hw _ (List.mem_of_getElem? (i := 17) rfl)) (by decide) rfl R0.1 (argsL := [(.ref so), (.int o1), (.int l1)]) (rest := []) (rmWr l Z a0 hw to ring so (0 : Int64) o1 l1 rs0 [] sl f1 n1 h0.size T89.heap K_91.size R0 Ar_90 (Ne.symm ne_so_ring) hf1 hn1 (by omega) (by omega) (by simp) g_to g_ring) (lenOf pd_5 rfl) rfl (by rw [hml]; rfl) (W := 0) (Nat.le_of_eq rfl) (hb hby at_163) (by decide) (by decide) (by decide) (by decide) ?_
  intro v92 T92 L92 X92 hQ92
  obtain ⟨rfl, C92, qs92, ql92, R92⟩ := hQ92
  have Ar_93 := Ar_90.keep C92.keep (ninS ne_so_to (ninS ne_so_ring nin0))
  have K_94 := K_91.call C92 (allS (Or.inr sz_to) (allS (Or.inr sz_ring) all0))
  show GoG _ _ _ _ _ (mkF m 166 #[.val (.long dd), .second, .val (.int cc), .val (.int w1), .val (.int w2), .val (.int w3), .val (.ref so), .val (.int c32), .val (.int o1), .val (.int l1), .val (.int o2), .val (.int l2), .val (.int o3), .val (.int l3), .val (.ref to), .unset, .unset] [])
  refine Go.back (f' := (mkF m 168 #[.val (.long dd), .second, .val (.int cc), .val (.int w1), .val (.int w2), .val (.int w3), .val (.ref so), .val (.int c32), .val (.int o1), .val (.int l1), .val (.int o2), .val (.int l2), .val (.int o3), .val (.int l3), .val (.ref to), .unset, .unset] [(.ref to)])) (fun _ k => XS.aload X92.here hx rfl (hb hby at_166) rfl rfl k) ?_
  refine Go.callV X92 hx hZ hown (hw _ (List.mem_of_getElem? (i := 20) rfl)) (hw _ (List.mem_of_getElem? (i := 21) rfl)) (hw _ (List.mem_of_getElem? (i := 23) rfl)) (hw _ (List.mem_of_getElem? (i := 22) rfl)) (hw _ (List.mem_of_getElem? (i := 4) rfl)) (hw _ (List.mem_of_getElem? (i := 24) rfl)) (by decide) rfl R92.1 (argsL := []) (rest := []) (rmTb l Z a0 hw to ring ((0 : Int64) + l1.toInt64) qs92 ([] ++ (sl.drop f1).take n1) h0.size T92.heap K_94.size R92 (by simp; omega)) (lenOf pd_6 rfl) rfl (by rw [hml]; rfl) (W := 0) (Nat.le_of_eq rfl) (hb hby at_168) (by decide) (by decide) (by decide) (by decide) ?_
  intro v95 T95 L95 X95 hQ95
  obtain ⟨g1, rfl, C95, z95, V95⟩ := hQ95
  have ne_so_g1 : so ≠ g1 := Nat.ne_of_lt (Nat.lt_of_lt_of_le Ar_93.lt z95)
  have ne_g1_to : g1 ≠ to := Ne.symm (Nat.ne_of_lt (Nat.lt_of_lt_of_le R92.1.lt z95))
  have ne_g1_ring : g1 ≠ ring := Ne.symm (Nat.ne_of_lt (Nat.lt_of_lt_of_le R92.2.2.2.1.lt z95))
  have Ar_96 := Ar_93.keep C95.keep nin0
  have K_97 := K_94.call C95 all0
  have R_98 := R92.keep0 C95.keep
  show GoG _ _ _ _ _ (mkF m 171 #[.val (.long dd), .second, .val (.int cc), .val (.int w1), .val (.int w2), .val (.int w3), .val (.ref so), .val (.int c32), .val (.int o1), .val (.int l1), .val (.int o2), .val (.int l2), .val (.int o3), .val (.int l3), .val (.ref to), .unset, .unset] [(.ref g1)])
  refine Go.back (f' := (mkF m 173 #[.val (.long dd), .second, .val (.int cc), .val (.int w1), .val (.int w2), .val (.int w3), .val (.ref so), .val (.int c32), .val (.int o1), .val (.int l1), .val (.int o2), .val (.int l2), .val (.int o3), .val (.int l3), .val (.ref to), .val (.ref g1), .unset] [])) (fun _ k => XS.astore X95.here hx rfl (hb hby at_171) rfl rfl (l' := #[.val (.long dd), .second, .val (.int cc), .val (.int w1), .val (.int w2), .val (.int w3), .val (.ref so), .val (.int c32), .val (.int o1), .val (.int l1), .val (.int o2), .val (.int l2), .val (.int o3), .val (.int l3), .val (.ref to), .val (.ref g1), .unset]) rfl k) ?_
  refine Go.back (f' := (mkF m 175 #[.val (.long dd), .second, .val (.int cc), .val (.int w1), .val (.int w2), .val (.int w3), .val (.ref so), .val (.int c32), .val (.int o1), .val (.int l1), .val (.int o2), .val (.int l2), .val (.int o3), .val (.int l3), .val (.ref to), .val (.ref g1), .unset] [(.ref g1)])) (fun _ k => XS.aload X95.here hx rfl (hb hby at_173) rfl rfl k) ?_
  refine Go.back (f' := (mkF m 177 #[.val (.long dd), .second, .val (.int cc), .val (.int w1), .val (.int w2), .val (.int w3), .val (.ref so), .val (.int c32), .val (.int o1), .val (.int l1), .val (.int o2), .val (.int l2), .val (.int o3), .val (.int l3), .val (.ref to), .val (.ref g1), .unset] [(.int c32), (.ref g1)])) (fun _ k => XS.iload X95.here hx rfl (hb hby at_175) rfl k) ?_
  refine Go.back (f' := (mkF m 179 #[.val (.long dd), .second, .val (.int cc), .val (.int w1), .val (.int w2), .val (.int w3), .val (.ref so), .val (.int c32), .val (.int o1), .val (.int l1), .val (.int o2), .val (.int l2), .val (.int o3), .val (.int l3), .val (.ref to), .val (.ref g1), .unset] [(.ref so), (.int c32), (.ref g1)])) (fun _ k => XS.aload X95.here hx rfl (hb hby at_177) rfl rfl k) ?_
  refine Go.back (f' := (mkF m 181 #[.val (.long dd), .second, .val (.int cc), .val (.int w1), .val (.int w2), .val (.int w3), .val (.ref so), .val (.int c32), .val (.int o1), .val (.int l1), .val (.int o2), .val (.int l2), .val (.int o3), .val (.int l3), .val (.ref to), .val (.ref g1), .unset] [(.int l1), (.ref so), (.int c32), (.ref g1)])) (fun _ k => XS.iload X95.here hx rfl (hb hby at_179) rfl k) ?_
  refine Go.back (f' := (mkF m 183 #[.val (.long dd), .second, .val (.int cc), .val (.int w1), .val (.int w2), .val (.int w3), .val (.ref so), .val (.int c32), .val (.int o1), .val (.int l1), .val (.int o2), .val (.int l2), .val (.int o3), .val (.int l3), .val (.ref to), .val (.ref g1), .unset] [(.int o1), (.int l1), (.ref so), (.int c32), (.ref g1)])) (fun _ k => XS.iload X95.here hx rfl (hb hby at_181) rfl k) ?_
  refine Go.back (f' := (mkF m 185 #[.val (.long dd), .second, .val (.int cc), .val (.int w1), .val (.int w2), .val (.int w3), .val (.ref so), .val (.int c32), .val (.int o1), .val (.int l1), .val (.int o2), .val (.int l2), .val (.int o3), .val (.int l3), .val (.ref to), .val (.ref g1), .unset] [(.int l1), (.int o1), (.int l1), (.ref so), (.int c32), (.ref g1)])) (fun _ k => XS.iload X95.here hx rfl (hb hby at_183) rfl k) ?_
  refine Go.back (f' := (mkF m 187 #[.val (.long dd), .second, .val (.int cc), .val (.int w1), .val (.int w2), .val (.int w3), .val (.ref so), .val (.int c32), .val (.int o1), .val (.int l1), .val (.int o2), .val (.int l2), .val (.int o3), .val (.int l3), .val (.ref to), .val (.ref g1), .unset] [(.int o2), (.int l1), (.int o1), (.int l1), (.ref so), (.int c32), (.ref g1)])) (fun _ k => XS.iload X95.here hx rfl (hb hby at_185) rfl k) ?_
  refine Go.back (f' := (mkF m 188 #[.val (.long dd), .second, .val (.int cc), .val (.int w1), .val (.int w2), .val (.int w3), .val (.ref so), .val (.int c32), .val (.int o1), .val (.int l1), .val (.int o2), .val (.int l2), .val (.int o3), .val (.int l3), .val (.ref to), .val (.ref g1), .unset] [(.int (0 : Int32)), (.int o2), (.int l1), (.int o1), (.int l1), (.ref so), (.int c32), (.ref g1)])) (fun _ k => XS.iconst X95.here hx rfl (hb hby at_187) k) ?_
  refine Go.back (f' := (mkF m 190 #[.val (.long dd), .second, .val (.int cc), .val (.int w1), .val (.int w2), .val (.int w3), .val (.ref so), .val (.int c32), .val (.int o1), .val (.int l1), .val (.int o2), .val (.int l2), .val (.int o3), .val (.int l3), .val (.ref to), .val (.ref g1), .unset] [(.int o3), (.int (0 : Int32)), (.int o2), (.int l1), (.int o1), (.int l1), (.ref so), (.int c32), (.ref g1)])) (fun _ k => XS.iload X95.here hx rfl (hb hby at_188) rfl k) ?_
  refine Go.back (f' := (mkF m 191 #[.val (.long dd), .second, .val (.int cc), .val (.int w1), .val (.int w2), .val (.int w3), .val (.ref so), .val (.int c32), .val (.int o1), .val (.int l1), .val (.int o2), .val (.int l2), .val (.int o3), .val (.int l3), .val (.ref to), .val (.ref g1), .unset] [(.int (0 : Int32)), (.int o3), (.int (0 : Int32)), (.int o2), (.int l1), (.int o1), (.int l1), (.ref so), (.int c32), (.ref g1)])) (fun _ k => XS.iconst X95.here hx rfl (hb hby at_190) k) ?_
  have sa : ([] ++ (sl.drop f1).take n1) = (sl.drop f1).take n1 ++ (sl.drop f2).take 0 ++ (sl.drop f3).take 0 := by simp
  have wwa : ([] ++ (sl.drop f1).take n1).length = n1 := by simp; omega
  have rla : qs92.length = 1 + ci := (ql92.trans hrl)
  obtain ⟨gma, HSa⟩ := own_hs3 (c := qs92.length) (f1 := f1) (f2 := f2) (f3 := f3) (by omega) (by omega) sa rfl
  have gqa : (([] ++ (sl.drop f1).take n1).drop (([] ++ (sl.drop f1).take n1).length - min ([] ++ (sl.drop f1).take n1).length qs92.length)).length = min (([] ++ (sl.drop f1).take n1).length) (1 + ci) := by rw [gma, rla]
  refine Go.callS X95 hx hZ hown (hw _ (List.mem_of_getElem? (i := 36) rfl)) (hw _ (List.mem_of_getElem? (i := 37) rfl)) (hw _ (List.mem_of_getElem? (i := 38) rfl)) (hw _ (List.mem_of_getElem? (i := 39) rfl)) (by decide) rfl (argsL := [(.ref g1), (.int c32), (.ref so), (.int l1), (.int o1), (.int l1), (.int o2), (.int (0 : Int32)), (.int o3), (.int (0 : Int32))]) (rest := []) (rmMat l Z a0 hw g1 so c32 l1 o1 l1 o2 (0 : Int32) o3 (0 : Int32) (([] ++ (sl.drop f1).take n1).drop (([] ++ (sl.drop f1).take n1).length - min ([] ++ (sl.drop f1).take n1).length qs92.length)) sl (1 + ci) (([] ++ (sl.drop f1).take n1).length) f1 n1 f2 0 f3 T95.heap V95 Ar_96 (by rw [wwa]; exact hn1) (by omega) (by rw [gqa]; exact Nat.min_le_left _ _) hf1 hn1 hf2 rfl hf3 (by omega) (by omega) (by omega) (by omega) HSa hc gqa) (lenOf pd_7 rfl) rfl (by rw [hml]; rfl) (W := 0) (Nat.le_of_eq rfl) (hb hby at_191) (by decide) (by decide) (by decide) (by decide) ?_
  intro v99 T99 L99 X99 hQ99
  obtain ⟨rfl, rfl, hh99⟩ := hQ99
  rw [List.append_nil] at X99
  show GoG _ _ _ _ _ (mkF m 194 #[.val (.long dd), .second, .val (.int cc), .val (.int w1), .val (.int w2), .val (.int w3), .val (.ref so), .val (.int c32), .val (.int o1), .val (.int l1), .val (.int o2), .val (.int l2), .val (.int o3), .val (.int l3), .val (.ref to), .val (.ref g1), .unset] [(.int (1 : Int32))])
  refine Go.back (f' := (mkF m 199 #[.val (.long dd), .second, .val (.int cc), .val (.int w1), .val (.int w2), .val (.int w3), .val (.ref so), .val (.int c32), .val (.int o1), .val (.int l1), .val (.int o2), .val (.int l2), .val (.int o3), .val (.int l3), .val (.ref to), .val (.ref g1), .unset] [])) (fun _ k => XS.ifYes X99.here hx rfl (pc0 := 194) (pc' := 199) rfl (hb hby at_194) rfl ((if0 _ _).trans (feq (by decide)).2) (by decide) (by decide) k) ?_
  refine Go.back (f' := (mkF m 201 #[.val (.long dd), .second, .val (.int cc), .val (.int w1), .val (.int w2), .val (.int w3), .val (.ref so), .val (.int c32), .val (.int o1), .val (.int l1), .val (.int o2), .val (.int l2), .val (.int o3), .val (.int l3), .val (.ref to), .val (.ref g1), .unset] [(.ref to)])) (fun _ k => XS.aload X99.here hx rfl (hb hby at_199) rfl rfl k) ?_
  refine Go.back (f' := (mkF m 203 #[.val (.long dd), .second, .val (.int cc), .val (.int w1), .val (.int w2), .val (.int w3), .val (.ref so), .val (.int c32), .val (.int o1), .val (.int l1), .val (.int o2), .val (.int l2), .val (.int o3), .val (.int l3), .val (.ref to), .val (.ref g1), .unset] [(.ref so), (.ref to)])) (fun _ k => XS.aload X99.here hx rfl (hb hby at_201) rfl rfl k) ?_
  refine Go.back (f' := (mkF m 205 #[.val (.long dd), .second, .val (.int cc), .val (.int w1), .val (.int w2), .val (.int w3), .val (.ref so), .val (.int c32), .val (.int o1), .val (.int l1), .val (.int o2), .val (.int l2), .val (.int o3), .val (.int l3), .val (.ref to), .val (.ref g1), .unset] [(.int o2), (.ref so), (.ref to)])) (fun _ k => XS.iload X99.here hx rfl (hb hby at_203) rfl k) ?_
  refine Go.back (f' := (mkF m 207 #[.val (.long dd), .second, .val (.int cc), .val (.int w1), .val (.int w2), .val (.int w3), .val (.ref so), .val (.int c32), .val (.int o1), .val (.int l1), .val (.int o2), .val (.int l2), .val (.int o3), .val (.int l3), .val (.ref to), .val (.ref g1), .unset] [(.int l2), (.int o2), (.ref so), (.ref to)])) (fun _ k => XS.iload X99.here hx rfl (hb hby at_205) rfl k) ?_
  refine Go.callV X99 hx hZ hown (hw _ (List.mem_of_getElem? (i := 13) rfl)) (hw _ (List.mem_of_getElem? (i := 14) rfl)) (hw _ (List.mem_of_getElem? (i := 16) rfl)) (hw _ (List.mem_of_getElem? (i := 15) rfl)) (hw _ (List.mem_of_getElem? (i := 4) rfl)) (hw _ (List.mem_of_getElem? (i := 17) rfl)) (by decide) hh99 R_98.1 (argsL := [(.ref so), (.int o2), (.int l2)]) (rest := []) (rmWr l Z a0 hw to ring so ((0 : Int64) + l1.toInt64) o2 l2 qs92 ([] ++ (sl.drop f1).take n1) sl f2 n2 h0.size T95.heap K_97.size R_98 Ar_96 (Ne.symm ne_so_ring) hf2 hn2 (by omega) (by omega) (by simp; omega) g_to g_ring) (lenOf pd_5 rfl) rfl (by rw [hml]; rfl) (W := 0) (Nat.le_of_eq rfl) (hb hby at_207) (by decide) (by decide) (by decide) (by decide) ?_
  intro v100 T100 L100 X100 hQ100
  obtain ⟨rfl, C100, qs100, ql100, R100⟩ := hQ100
  have Ar_101 := Ar_96.keep C100.keep (ninS ne_so_to (ninS ne_so_ring nin0))
  have Ar_102 := V95.keep C100.keep (ninS ne_g1_to (ninS ne_g1_ring nin0))
  have K_103 := K_97.call C100 (allS (Or.inr sz_to) (allS (Or.inr sz_ring) all0))
  show GoG _ _ _ _ _ (mkF m 210 #[.val (.long dd), .second, .val (.int cc), .val (.int w1), .val (.int w2), .val (.int w3), .val (.ref so), .val (.int c32), .val (.int o1), .val (.int l1), .val (.int o2), .val (.int l2), .val (.int o3), .val (.int l3), .val (.ref to), .val (.ref g1), .unset] [])
  refine Go.back (f' := (mkF m 212 #[.val (.long dd), .second, .val (.int cc), .val (.int w1), .val (.int w2), .val (.int w3), .val (.ref so), .val (.int c32), .val (.int o1), .val (.int l1), .val (.int o2), .val (.int l2), .val (.int o3), .val (.int l3), .val (.ref to), .val (.ref g1), .unset] [(.ref to)])) (fun _ k => XS.aload X100.here hx rfl (hb hby at_210) rfl rfl k) ?_
  refine Go.back (f' := (mkF m 214 #[.val (.long dd), .second, .val (.int cc), .val (.int w1), .val (.int w2), .val (.int w3), .val (.ref so), .val (.int c32), .val (.int o1), .val (.int l1), .val (.int o2), .val (.int l2), .val (.int o3), .val (.int l3), .val (.ref to), .val (.ref g1), .unset] [(.ref so), (.ref to)])) (fun _ k => XS.aload X100.here hx rfl (hb hby at_212) rfl rfl k) ?_
  refine Go.back (f' := (mkF m 216 #[.val (.long dd), .second, .val (.int cc), .val (.int w1), .val (.int w2), .val (.int w3), .val (.ref so), .val (.int c32), .val (.int o1), .val (.int l1), .val (.int o2), .val (.int l2), .val (.int o3), .val (.int l3), .val (.ref to), .val (.ref g1), .unset] [(.int o3), (.ref so), (.ref to)])) (fun _ k => XS.iload X100.here hx rfl (hb hby at_214) rfl k) ?_
  refine Go.back (f' := (mkF m 218 #[.val (.long dd), .second, .val (.int cc), .val (.int w1), .val (.int w2), .val (.int w3), .val (.ref so), .val (.int c32), .val (.int o1), .val (.int l1), .val (.int o2), .val (.int l2), .val (.int o3), .val (.int l3), .val (.ref to), .val (.ref g1), .unset] [(.int l3), (.int o3), (.ref so), (.ref to)])) (fun _ k => XS.iload X100.here hx rfl (hb hby at_216) rfl k) ?_
  refine Go.callV X100 hx hZ hown (hw _ (List.mem_of_getElem? (i := 13) rfl)) (hw _ (List.mem_of_getElem? (i := 14) rfl)) (hw _ (List.mem_of_getElem? (i := 16) rfl)) (hw _ (List.mem_of_getElem? (i := 15) rfl)) (hw _ (List.mem_of_getElem? (i := 4) rfl)) (hw _ (List.mem_of_getElem? (i := 17) rfl)) (by decide) rfl R100.1 (argsL := [(.ref so), (.int o3), (.int l3)]) (rest := []) (rmWr l Z a0 hw to ring so (((0 : Int64) + l1.toInt64) + l2.toInt64) o3 l3 qs100 (([] ++ (sl.drop f1).take n1) ++ (sl.drop f2).take n2) sl f3 n3 h0.size T100.heap K_103.size R100 Ar_101 (Ne.symm ne_so_ring) hf3 hn3 (by omega) (by omega) (by simp; omega) g_to g_ring) (lenOf pd_5 rfl) rfl (by rw [hml]; rfl) (W := 0) (Nat.le_of_eq rfl) (hb hby at_218) (by decide) (by decide) (by decide) (by decide) ?_
  intro v104 T104 L104 X104 hQ104
  obtain ⟨rfl, C104, qs104, ql104, R104⟩ := hQ104
  have Ar_105 := Ar_101.keep C104.keep (ninS ne_so_to (ninS ne_so_ring nin0))
  have Ar_106 := Ar_102.keep C104.keep (ninS ne_g1_to (ninS ne_g1_ring nin0))
  have K_107 := K_103.call C104 (allS (Or.inr sz_to) (allS (Or.inr sz_ring) all0))
  show GoG _ _ _ _ _ (mkF m 221 #[.val (.long dd), .second, .val (.int cc), .val (.int w1), .val (.int w2), .val (.int w3), .val (.ref so), .val (.int c32), .val (.int o1), .val (.int l1), .val (.int o2), .val (.int l2), .val (.int o3), .val (.int l3), .val (.ref to), .val (.ref g1), .unset] [])
  refine Go.back (f' := (mkF m 223 #[.val (.long dd), .second, .val (.int cc), .val (.int w1), .val (.int w2), .val (.int w3), .val (.ref so), .val (.int c32), .val (.int o1), .val (.int l1), .val (.int o2), .val (.int l2), .val (.int o3), .val (.int l3), .val (.ref to), .val (.ref g1), .unset] [(.ref to)])) (fun _ k => XS.aload X104.here hx rfl (hb hby at_221) rfl rfl k) ?_
  refine Go.callV X104 hx hZ hown (hw _ (List.mem_of_getElem? (i := 20) rfl)) (hw _ (List.mem_of_getElem? (i := 21) rfl)) (hw _ (List.mem_of_getElem? (i := 23) rfl)) (hw _ (List.mem_of_getElem? (i := 22) rfl)) (hw _ (List.mem_of_getElem? (i := 4) rfl)) (hw _ (List.mem_of_getElem? (i := 24) rfl)) (by decide) rfl R104.1 (argsL := []) (rest := []) (rmTb l Z a0 hw to ring ((((0 : Int64) + l1.toInt64) + l2.toInt64) + l3.toInt64) qs104 ((([] ++ (sl.drop f1).take n1) ++ (sl.drop f2).take n2) ++ (sl.drop f3).take n3) h0.size T104.heap K_107.size R104 (by simp; omega)) (lenOf pd_6 rfl) rfl (by rw [hml]; rfl) (W := 0) (Nat.le_of_eq rfl) (hb hby at_223) (by decide) (by decide) (by decide) (by decide) ?_
  intro v108 T108 L108 X108 hQ108
  obtain ⟨g2, rfl, C108, z108, V108⟩ := hQ108
  have ne_so_g2 : so ≠ g2 := Nat.ne_of_lt (Nat.lt_of_lt_of_le Ar_105.lt z108)
  have ne_g1_g2 : g1 ≠ g2 := Nat.ne_of_lt (Nat.lt_of_lt_of_le Ar_106.lt z108)
  have ne_g2_to : g2 ≠ to := Ne.symm (Nat.ne_of_lt (Nat.lt_of_lt_of_le R104.1.lt z108))
  have ne_g2_ring : g2 ≠ ring := Ne.symm (Nat.ne_of_lt (Nat.lt_of_lt_of_le R104.2.2.2.1.lt z108))
  have Ar_109 := Ar_105.keep C108.keep nin0
  have Ar_110 := Ar_106.keep C108.keep nin0
  have K_111 := K_107.call C108 all0
  have R_112 := R104.keep0 C108.keep
  show GoG _ _ _ _ _ (mkF m 226 #[.val (.long dd), .second, .val (.int cc), .val (.int w1), .val (.int w2), .val (.int w3), .val (.ref so), .val (.int c32), .val (.int o1), .val (.int l1), .val (.int o2), .val (.int l2), .val (.int o3), .val (.int l3), .val (.ref to), .val (.ref g1), .unset] [(.ref g2)])
  refine Go.back (f' := (mkF m 228 #[.val (.long dd), .second, .val (.int cc), .val (.int w1), .val (.int w2), .val (.int w3), .val (.ref so), .val (.int c32), .val (.int o1), .val (.int l1), .val (.int o2), .val (.int l2), .val (.int o3), .val (.int l3), .val (.ref to), .val (.ref g1), .val (.ref g2)] [])) (fun _ k => XS.astore X108.here hx rfl (hb hby at_226) rfl rfl (l' := #[.val (.long dd), .second, .val (.int cc), .val (.int w1), .val (.int w2), .val (.int w3), .val (.ref so), .val (.int c32), .val (.int o1), .val (.int l1), .val (.int o2), .val (.int l2), .val (.int o3), .val (.int l3), .val (.ref to), .val (.ref g1), .val (.ref g2)]) rfl k) ?_
  refine Go.back (f' := (mkF m 230 #[.val (.long dd), .second, .val (.int cc), .val (.int w1), .val (.int w2), .val (.int w3), .val (.ref so), .val (.int c32), .val (.int o1), .val (.int l1), .val (.int o2), .val (.int l2), .val (.int o3), .val (.int l3), .val (.ref to), .val (.ref g1), .val (.ref g2)] [(.ref g2)])) (fun _ k => XS.aload X108.here hx rfl (hb hby at_228) rfl rfl k) ?_
  refine Go.back (f' := (mkF m 232 #[.val (.long dd), .second, .val (.int cc), .val (.int w1), .val (.int w2), .val (.int w3), .val (.ref so), .val (.int c32), .val (.int o1), .val (.int l1), .val (.int o2), .val (.int l2), .val (.int o3), .val (.int l3), .val (.ref to), .val (.ref g1), .val (.ref g2)] [(.int c32), (.ref g2)])) (fun _ k => XS.iload X108.here hx rfl (hb hby at_230) rfl k) ?_
  refine Go.back (f' := (mkF m 234 #[.val (.long dd), .second, .val (.int cc), .val (.int w1), .val (.int w2), .val (.int w3), .val (.ref so), .val (.int c32), .val (.int o1), .val (.int l1), .val (.int o2), .val (.int l2), .val (.int o3), .val (.int l3), .val (.ref to), .val (.ref g1), .val (.ref g2)] [(.ref so), (.int c32), (.ref g2)])) (fun _ k => XS.aload X108.here hx rfl (hb hby at_232) rfl rfl k) ?_
  refine Go.back (f' := (mkF m 236 #[.val (.long dd), .second, .val (.int cc), .val (.int w1), .val (.int w2), .val (.int w3), .val (.ref so), .val (.int c32), .val (.int o1), .val (.int l1), .val (.int o2), .val (.int l2), .val (.int o3), .val (.int l3), .val (.ref to), .val (.ref g1), .val (.ref g2)] [(.int l1), (.ref so), (.int c32), (.ref g2)])) (fun _ k => XS.iload X108.here hx rfl (hb hby at_234) rfl k) ?_
  refine Go.back (f' := (mkF m 238 #[.val (.long dd), .second, .val (.int cc), .val (.int w1), .val (.int w2), .val (.int w3), .val (.ref so), .val (.int c32), .val (.int o1), .val (.int l1), .val (.int o2), .val (.int l2), .val (.int o3), .val (.int l3), .val (.ref to), .val (.ref g1), .val (.ref g2)] [(.int l2), (.int l1), (.ref so), (.int c32), (.ref g2)])) (fun _ k => XS.iload X108.here hx rfl (hb hby at_236) rfl k) ?_
  refine Go.back (f' := (mkF m 239 #[.val (.long dd), .second, .val (.int cc), .val (.int w1), .val (.int w2), .val (.int w3), .val (.ref so), .val (.int c32), .val (.int o1), .val (.int l1), .val (.int o2), .val (.int l2), .val (.int o3), .val (.int l3), .val (.ref to), .val (.ref g1), .val (.ref g2)] [(.int (l1 + l2)), (.ref so), (.int c32), (.ref g2)])) (fun _ k => XS.iadd X108.here hx rfl (hb hby at_238) rfl k) ?_
  refine Go.back (f' := (mkF m 241 #[.val (.long dd), .second, .val (.int cc), .val (.int w1), .val (.int w2), .val (.int w3), .val (.ref so), .val (.int c32), .val (.int o1), .val (.int l1), .val (.int o2), .val (.int l2), .val (.int o3), .val (.int l3), .val (.ref to), .val (.ref g1), .val (.ref g2)] [(.int l3), (.int (l1 + l2)), (.ref so), (.int c32), (.ref g2)])) (fun _ k => XS.iload X108.here hx rfl (hb hby at_239) rfl k) ?_
  refine Go.back (f' := (mkF m 242 #[.val (.long dd), .second, .val (.int cc), .val (.int w1), .val (.int w2), .val (.int w3), .val (.ref so), .val (.int c32), .val (.int o1), .val (.int l1), .val (.int o2), .val (.int l2), .val (.int o3), .val (.int l3), .val (.ref to), .val (.ref g1), .val (.ref g2)] [(.int ((l1 + l2) + l3)), (.ref so), (.int c32), (.ref g2)])) (fun _ k => XS.iadd X108.here hx rfl (hb hby at_241) rfl k) ?_
  refine Go.back (f' := (mkF m 244 #[.val (.long dd), .second, .val (.int cc), .val (.int w1), .val (.int w2), .val (.int w3), .val (.ref so), .val (.int c32), .val (.int o1), .val (.int l1), .val (.int o2), .val (.int l2), .val (.int o3), .val (.int l3), .val (.ref to), .val (.ref g1), .val (.ref g2)] [(.int o1), (.int ((l1 + l2) + l3)), (.ref so), (.int c32), (.ref g2)])) (fun _ k => XS.iload X108.here hx rfl (hb hby at_242) rfl k) ?_
  refine Go.back (f' := (mkF m 246 #[.val (.long dd), .second, .val (.int cc), .val (.int w1), .val (.int w2), .val (.int w3), .val (.ref so), .val (.int c32), .val (.int o1), .val (.int l1), .val (.int o2), .val (.int l2), .val (.int o3), .val (.int l3), .val (.ref to), .val (.ref g1), .val (.ref g2)] [(.int l1), (.int o1), (.int ((l1 + l2) + l3)), (.ref so), (.int c32), (.ref g2)])) (fun _ k => XS.iload X108.here hx rfl (hb hby at_244) rfl k) ?_
  refine Go.back (f' := (mkF m 248 #[.val (.long dd), .second, .val (.int cc), .val (.int w1), .val (.int w2), .val (.int w3), .val (.ref so), .val (.int c32), .val (.int o1), .val (.int l1), .val (.int o2), .val (.int l2), .val (.int o3), .val (.int l3), .val (.ref to), .val (.ref g1), .val (.ref g2)] [(.int o2), (.int l1), (.int o1), (.int ((l1 + l2) + l3)), (.ref so), (.int c32), (.ref g2)])) (fun _ k => XS.iload X108.here hx rfl (hb hby at_246) rfl k) ?_
  refine Go.back (f' := (mkF m 250 #[.val (.long dd), .second, .val (.int cc), .val (.int w1), .val (.int w2), .val (.int w3), .val (.ref so), .val (.int c32), .val (.int o1), .val (.int l1), .val (.int o2), .val (.int l2), .val (.int o3), .val (.int l3), .val (.ref to), .val (.ref g1), .val (.ref g2)] [(.int l2), (.int o2), (.int l1), (.int o1), (.int ((l1 + l2) + l3)), (.ref so), (.int c32), (.ref g2)])) (fun _ k => XS.iload X108.here hx rfl (hb hby at_248) rfl k) ?_
  refine Go.back (f' := (mkF m 252 #[.val (.long dd), .second, .val (.int cc), .val (.int w1), .val (.int w2), .val (.int w3), .val (.ref so), .val (.int c32), .val (.int o1), .val (.int l1), .val (.int o2), .val (.int l2), .val (.int o3), .val (.int l3), .val (.ref to), .val (.ref g1), .val (.ref g2)] [(.int o3), (.int l2), (.int o2), (.int l1), (.int o1), (.int ((l1 + l2) + l3)), (.ref so), (.int c32), (.ref g2)])) (fun _ k => XS.iload X108.here hx rfl (hb hby at_250) rfl k) ?_
  refine Go.back (f' := (mkF m 254 #[.val (.long dd), .second, .val (.int cc), .val (.int w1), .val (.int w2), .val (.int w3), .val (.ref so), .val (.int c32), .val (.int o1), .val (.int l1), .val (.int o2), .val (.int l2), .val (.int o3), .val (.int l3), .val (.ref to), .val (.ref g1), .val (.ref g2)] [(.int l3), (.int o3), (.int l2), (.int o2), (.int l1), (.int o1), (.int ((l1 + l2) + l3)), (.ref so), (.int c32), (.ref g2)])) (fun _ k => XS.iload X108.here hx rfl (hb hby at_252) rfl k) ?_
  have sb : ((([] ++ (sl.drop f1).take n1) ++ (sl.drop f2).take n2) ++ (sl.drop f3).take n3) = (sl.drop f1).take n1 ++ (sl.drop f2).take n2 ++ (sl.drop f3).take n3 := by simp
  have wwb : ((([] ++ (sl.drop f1).take n1) ++ (sl.drop f2).take n2) ++ (sl.drop f3).take n3).length = n1 + n2 + n3 := by simp; omega
  have rlb : qs104.length = 1 + ci := (ql104.trans (ql100.trans (ql92.trans hrl)))
  obtain ⟨gmb, HSb⟩ := own_hs3 (c := qs104.length) (f1 := f1) (f2 := f2) (f3 := f3) (by omega) (by omega) sb rfl
  have gqb : (((([] ++ (sl.drop f1).take n1) ++ (sl.drop f2).take n2) ++ (sl.drop f3).take n3).drop (((([] ++ (sl.drop f1).take n1) ++ (sl.drop f2).take n2) ++ (sl.drop f3).take n3).length - min ((([] ++ (sl.drop f1).take n1) ++ (sl.drop f2).take n2) ++ (sl.drop f3).take n3).length qs104.length)).length = min (((([] ++ (sl.drop f1).take n1) ++ (sl.drop f2).take n2) ++ (sl.drop f3).take n3).length) (1 + ci) := by rw [gmb, rlb]
  refine Go.callS X108 hx hZ hown (hw _ (List.mem_of_getElem? (i := 36) rfl)) (hw _ (List.mem_of_getElem? (i := 37) rfl)) (hw _ (List.mem_of_getElem? (i := 38) rfl)) (hw _ (List.mem_of_getElem? (i := 39) rfl)) (by decide) rfl (argsL := [(.ref g2), (.int c32), (.ref so), (.int ((l1 + l2) + l3)), (.int o1), (.int l1), (.int o2), (.int l2), (.int o3), (.int l3)]) (rest := []) (rmMat l Z a0 hw g2 so c32 ((l1 + l2) + l3) o1 l1 o2 l2 o3 l3 (((([] ++ (sl.drop f1).take n1) ++ (sl.drop f2).take n2) ++ (sl.drop f3).take n3).drop (((([] ++ (sl.drop f1).take n1) ++ (sl.drop f2).take n2) ++ (sl.drop f3).take n3).length - min ((([] ++ (sl.drop f1).take n1) ++ (sl.drop f2).take n2) ++ (sl.drop f3).take n3).length qs104.length)) sl (1 + ci) (((([] ++ (sl.drop f1).take n1) ++ (sl.drop f2).take n2) ++ (sl.drop f3).take n3).length) f1 n1 f2 n2 f3 T108.heap V108 Ar_109 (by rw [wwb]; exact (add_nat (add_nat hn1 hn2 (by omega)) hn3 (by omega))) (by omega) (by rw [gqb]; exact Nat.min_le_left _ _) hf1 hn1 hf2 hn2 hf3 (by omega) (by omega) (by omega) (by omega) HSb hc gqb) (lenOf pd_7 rfl) rfl (by rw [hml]; rfl) (W := 0) (Nat.le_of_eq rfl) (hb hby at_254) (by decide) (by decide) (by decide) (by decide) ?_
  intro v113 T113 L113 X113 hQ113
  obtain ⟨rfl, rfl, hh113⟩ := hQ113
  rw [List.append_nil] at X113
  show GoG _ _ _ _ _ (mkF m 257 #[.val (.long dd), .second, .val (.int cc), .val (.int w1), .val (.int w2), .val (.int w3), .val (.ref so), .val (.int c32), .val (.int o1), .val (.int l1), .val (.int o2), .val (.int l2), .val (.int o3), .val (.int l3), .val (.ref to), .val (.ref g1), .val (.ref g2)] [(.int (1 : Int32))])
  exact Go.retN X113 hx (t := .boolean) hret (by simp) (w := (1 : Int32)) rfl hlk (hb hby at_257) (by (try rw [hh113]); exact ⟨rfl, K_111.fr⟩) (by decide) (by decide)
set_option maxRecDepth 65536 in
set_option maxHeartbeats 40000000 in
theorem comes_1 {Post : Tables → Env → Array Value → State → Outcome → State → Prop} (hpost : ∀ tb e args s v u, (limb_1_1.after args s (.returned v) u = true ∧ limb_1_2.after args s (.returned v) u = true ∧ True) → FrameEnd s (.returned v) u (Jvm.fieldLocs frame_1_writes args s ++ Jvm.arrayLocs frame_1_arrays args s ++ Jvm.staticLocs frame_1_statics s) 24 128 → Post tb e args s (.returned v) u) :
    ArmFor flags0 classFile x code maxLocals ret World_1 tables_1 room_1 Calls_1 rest_1 Pre_1 Post := by
  intro l hfl _ _ p e ha hc hk s m args below hf hA hF happ hP
  obtain ⟨hcalls, hrest, hpre⟩ := hP
  obtain ⟨-, -, -, hnamed, -, -, -, hat⟩ := (Spec.applies_iff hf).mp happ
  obtain ⟨hg, hn⟩ := and_e (Cond.before_iff.mp (show (Jvm.Cond.and given_1 narrow_1).before args s = true from hpre))
  obtain ⟨hcnt, hg0⟩ := and_e hg
  obtain ⟨ht0, hg1⟩ := and_e hg0
  obtain ⟨ht1, hg2⟩ := and_e hg1
  obtain ⟨ht2, hg3⟩ := and_e hg2
  obtain ⟨ht3, hg4⟩ := and_e hg3
  have ht4 := hg4
  obtain ⟨w0, w1, w2, w3, w4, rfl⟩ : ∃ w0 w1 w2 w3 w4 : Value, args = #[w0, w1, w2, w3, w4] := by
    have hs : args.size = 5 := by simpa [Cond.value, given_1] using hcnt
    obtain ⟨L⟩ := args
    match L, hs with
    | [w0, w1, w2, w3, w4], _ => exact ⟨w0, w1, w2, w3, w4, rfl⟩
  have hw := fun d (hd : d ∈ tables_1) => atoms_spec (ws := Jvm.Cond.code x code maxLocals ret :: tables_1) hat d (List.mem_cons_of_mem _ hd)
  have hfit : Fit s := fun {y c} hc i hi => by
    obtain ⟨ha, rfl⟩ := Array.getElem?_eq_some_iff.mp hc
    have q := List.all_eq_true.mp ((Array.all_eq_true_iff_forall_mem.mp hF) _ (Array.getElem_mem ha)) i (List.mem_range.mpr hi)
    simpa [Array.getElem?_eq_getElem hi] using q
  obtain ⟨i0, ei0⟩ := isL_v ht0
  obtain rfl : w0 = (.long i0) := Option.some.inj ei0
  obtain ⟨i1, ei1⟩ := is_v ht1
  obtain rfl : w1 = (.int i1) := Option.some.inj ei1
  obtain ⟨i2, ei2⟩ := is_v ht2
  obtain rfl : w2 = (.int i2) := Option.some.inj ei2
  obtain ⟨i3, ei3⟩ := is_v ht3
  obtain rfl : w3 = (.int i3) := Option.some.inj ei3
  obtain ⟨i4, ei4⟩ := is_v ht4
  obtain rfl : w4 = (.int i4) := Option.some.inj ei4
  obtain ⟨n, o, h1, h2, h3, _, L, rfl, ⟨rfl, N⟩, hq⟩ := (rm0 l s _ hw i0 i1 i2 i3 i4 s.heap) tables_1 p e ha hc hk s m _ below hf ((Spec.applies_iff_loose hf).mp happ).1 ⟨rfl, State.Warmed39.refl s, rfl⟩ trivial
  refine ⟨n, _, h1, h2, h3, hpost _ _ _ _ _ _ ⟨Cond.after_iff.mpr rfl, Cond.after_iff.mpr (eq_i res_at (Term.int_eval (1)) rfl), trivial⟩ ⟨hq.1, hq.2.1, (hq.2.2.sift fun y hy => Or.inr (N y hy)).mono (by decide) (by decide)⟩⟩
theorem main_1_1 : Claimed_1_1 := comes_1 fun _ _ _ _ _ _ h hF => ⟨h.1, hF⟩
theorem main_1_2 : Claimed_1_2 := comes_1 fun _ _ _ _ _ _ h hF => ⟨h.2.1, hF⟩
end Jvm.Pilot.@@N@@
namespace Jvm.Pilot.@@N@@
open Jvm Jvm.ClassFile Sem Op Lib Jvm.Free Jvm.Stand Jvm.Pilot.@@N@@.Jvm.D
/-! MADE BY PROGRAM (witnessworld.py) out of the Statement's table words and the real class files: 9 classes; the members and pool entries that the words name. The judged class is class 1, her method 1. -/
namespace start1
open Jvm.ClassFile
def u (s : String) : CpInfo := .utf8 (stringToUtf16 s)
/-- a pool by its gaps: so many unusable entries, then the entry; so many at the end -/
def gap : Nat → List CpInfo → List CpInfo
  | 0, r => r
  | n + 1, r => .unusable :: gap n r
def poolList (es : List (Nat × CpInfo)) (last : Nat) : List CpInfo := es.foldr (fun e r => gap e.1 (e.2 :: r)) (gap last [])
def pool (es : List (Nat × CpInfo)) (last : Nat) : Array CpInfo := ⟨poolList es last⟩
def fileOf (pool : Array CpInfo) (this : Nat) (attrs : Array Attribute := #[]) (ms : Array MethodInfo := #[]) (fl : Nat := 33) (sup : Nat := 0) (ifs : Array Nat := #[]) (fds : Array FieldInfo := #[]) : ClassFile where
  minorVersion := 0
  majorVersion := 65
  constantPool := pool
  accessFlags := fl
  thisClass := this
  superClass := sup
  interfaces := ifs
  fields := fds
  methods := ms
  attributes := attrs
def plain (name : String) (sup : Option ClassId) : Class where
  name := name
  kind := .ordinary
  loader := none
  accessFlags := 33
  super := sup
  interfaces := #[]
  cf := none
  fields := #[]
  methods := #[]
  instanceTypes := #[]
  staticTypes := #[]
  resolved := #[]
  callSites := []
  init := .initialized
  statics := none
  mirror := none

def pool0 : Array CpInfo := pool [(5, u "<init>"), (0, u "()V"), (1, .class_ 10), (1, u "java/lang/Object")] 113

def k0c0 : Code := { maxStack := 0, maxLocals := 1, code := object_method_1_code, exceptionTable := #[], attributes := #[] }
def k0m0 : Method := { name := "<init>", desc := "()V", sig := { parameters := [], returnType := none }, accessFlags := 1, code := some k0c0 }
/-- java/lang/Object -/
def k0 : Class := { plain "java/lang/Object" none with
  accessFlags := 33
  interfaces := #[]
  cf := some (fileOf pool0 8 #[] #[{ accessFlags := 1, nameIndex := 5, descriptorIndex := 6, attributes := #[] }] 33 0 #[] #[])
  fields := #[]
  methods := #[k0m0]
  instanceTypes := #[]
  staticTypes := #[]
  resolved := Array.replicate 124 none
  statics := none }

def pool1 : Array CpInfo := pool [(2, .class_ 4), (1, u "java/lang/Object"), (0, u "<init>"), (0, u "()V"), (0, .integer 2147483647), (0, .class_ 9), (0, u "com/example/chore_scheduler/chorescheduler/exec/OutputTail"), (0, .methodref 8 11), (0, .nameAndType 5 12), (0, u "(I)V"), (0, .methodref 8 14), (0, .nameAndType 15 16), (0, u "write"), (0, u "([BII)V"), (0, .methodref 8 18), (0, .nameAndType 19 20), (0, u "toByteArray"), (0, u "()[B"), (0, .methodref 22 23), (0, .class_ 24), (0, .nameAndType 25 26), (0, u "com/example/chore_scheduler/chorescheduler/exec/OutputTailToByteArrayPinLaw"), (0, u "matches"), (0, u "([BI[BIIIIIII)Z"), (0, .methodref 28 29), (0, .class_ 30), (0, .nameAndType 31 32), (0, u "java/lang/Math"), (0, u "min"), (0, u "(II)I"), (0, .methodref 22 34), (0, .nameAndType 35 36), (0, u "at"), (0, u "([BIII[BIIIII)Z"), (0, .methodref 22 38), (0, .nameAndType 39 40), (0, u "streamAt"), (0, u "([BIIIIII)B"), (2, u "law"), (0, u "(JIIII)Z")] 5

def k1m0 : Method := { name := "<init>", desc := "()V", sig := { parameters := [], returnType := none }, accessFlags := 1, code := none }
def k1c1 : Code := { maxStack := 10, maxLocals := 17, code := code, exceptionTable := #[], attributes := #[] }
def k1m1 : Method := { name := "law", desc := "(JIIII)Z", sig := { parameters := [.long, .int, .int, .int, .int], returnType := some .boolean }, accessFlags := 9, code := some k1c1 }
def k1c2 : Code := { maxStack := 10, maxLocals := 11, code := method_3_code, exceptionTable := #[], attributes := #[] }
def k1m2 : Method := { name := "matches", desc := "([BI[BIIIIIII)Z", sig := { parameters := [(.array .byte), .int, (.array .byte), .int, .int, .int, .int, .int, .int, .int], returnType := some .boolean }, accessFlags := 10, code := some k1c2 }
def k1c3 : Code := { maxStack := 8, maxLocals := 10, code := method_4_code, exceptionTable := #[], attributes := #[] }
def k1m3 : Method := { name := "at", desc := "([BIII[BIIIII)Z", sig := { parameters := [(.array .byte), .int, .int, .int, (.array .byte), .int, .int, .int, .int, .int], returnType := some .boolean }, accessFlags := 10, code := some k1c3 }
def k1c4 : Code := { maxStack := 3, maxLocals := 8, code := method_5_code, exceptionTable := #[], attributes := #[] }
def k1m4 : Method := { name := "streamAt", desc := "([BIIIIII)B", sig := { parameters := [(.array .byte), .int, .int, .int, .int, .int, .int], returnType := some .byte }, accessFlags := 10, code := some k1c4 }
/-- com/example/chore_scheduler/chorescheduler/exec/OutputTailToByteArrayPinLaw -/
def k1 : Class := { plain "com/example/chore_scheduler/chorescheduler/exec/OutputTailToByteArrayPinLaw" (some 0) with
  accessFlags := 49
  interfaces := #[]
  cf := some (fileOf pool1 22 #[] #[{ accessFlags := 1, nameIndex := 5, descriptorIndex := 6, attributes := #[] }, { accessFlags := 9, nameIndex := 43, descriptorIndex := 44, attributes := #[] }, { accessFlags := 10, nameIndex := 25, descriptorIndex := 26, attributes := #[] }, { accessFlags := 10, nameIndex := 35, descriptorIndex := 36, attributes := #[] }, { accessFlags := 10, nameIndex := 39, descriptorIndex := 40, attributes := #[] }] 49 2 #[] #[])
  fields := #[]
  methods := #[k1m0, k1m1, k1m2, k1m3, k1m4]
  instanceTypes := #[]
  staticTypes := #[]
  resolved := Array.replicate 50 none
  statics := none }

def pool2 : Array CpInfo := pool [(1, .methodref 2 3), (0, .class_ 4), (0, .nameAndType 5 6), (0, u "java/lang/Object"), (0, u "<init>"), (0, u "()V"), (0, .fieldref 8 9), (0, .class_ 10), (0, .nameAndType 11 12), (0, u "com/example/chore_scheduler/chorescheduler/exec/OutputTail"), (0, u "ring"), (0, u "[B"), (0, .fieldref 8 14), (0, .nameAndType 15 16), (0, u "written"), (0, u "J"), (0, .methodref 18 19), (0, .class_ 20), (0, .nameAndType 21 22), (0, u "java/lang/Math"), (0, u "min"), (0, u "(II)I"), (0, .methodref 24 25), (0, .class_ 26), (0, .nameAndType 27 28), (0, u "java/lang/System"), (0, u "arraycopy"), (0, u "(Ljava/lang/Object;ILjava/lang/Object;II)V"), (0, .methodref 18 30), (0, .nameAndType 21 31), (0, u "(JJ)J"), (0, u "(I)V"), (2, u "write"), (0, u "([BII)V"), (1, u "toByteArray"), (0, u "()[B")] 2

def k2c0 : Code := { maxStack := 2, maxLocals := 2, code := prog_3_method_1_code, exceptionTable := #[], attributes := #[] }
def k2m0 : Method := { name := "<init>", desc := "(I)V", sig := { parameters := [.int], returnType := none }, accessFlags := 0, code := some k2c0 }
def k2c1 : Code := { maxStack := 5, maxLocals := 8, code := prog_3_method_2_code, exceptionTable := #[], attributes := #[] }
def k2m1 : Method := { name := "write", desc := "([BII)V", sig := { parameters := [(.array .byte), .int, .int], returnType := none }, accessFlags := 0, code := some k2c1 }
def k2c2 : Code := { maxStack := 6, maxLocals := 5, code := prog_3_method_3_code, exceptionTable := #[], attributes := #[] }
def k2m2 : Method := { name := "toByteArray", desc := "()[B", sig := { parameters := [], returnType := some (.array .byte) }, accessFlags := 0, code := some k2c2 }
/-- com/example/chore_scheduler/chorescheduler/exec/OutputTail -/
def k2 : Class := { plain "com/example/chore_scheduler/chorescheduler/exec/OutputTail" (some 0) with
  accessFlags := 32
  interfaces := #[]
  cf := some (fileOf pool2 8 #[] #[{ accessFlags := 0, nameIndex := 5, descriptorIndex := 32, attributes := #[] }, { accessFlags := 0, nameIndex := 35, descriptorIndex := 36, attributes := #[] }, { accessFlags := 0, nameIndex := 38, descriptorIndex := 39, attributes := #[] }] 32 2 #[] #[{ accessFlags := 18, nameIndex := 11, descriptorIndex := 12, attributes := #[] }, { accessFlags := 2, nameIndex := 15, descriptorIndex := 16, attributes := #[] }])
  fields := #[{ name := "ring", type := (.array .byte), accessFlags := 18, slot := 0, constantValue := 0 }, { name := "written", type := .long, accessFlags := 2, slot := 1, constantValue := 0 }]
  methods := #[k2m0, k2m1, k2m2]
  instanceTypes := #[(.array .byte), .long]
  staticTypes := #[]
  resolved := Array.replicate 42 none
  statics := none }

def pool3 : Array CpInfo := pool [(1, .class_ 2), (0, u "java/lang/Math"), (1, .class_ 6), (1, u "java/lang/Object"), (0, u "<init>"), (0, u "()V"), (89, .class_ 100), (1, u "java/lang/Math$RandomNumberGeneratorHolder"), (20, u "(JJ)J"), (50, u "negativeZeroFloatBits"), (0, u "J"), (2, u "negativeZeroDoubleBits"), (24, u "min"), (43, u "$assertionsDisabled"), (0, u "Z"), (88, u "(II)I"), (2, u "twoToTheDoubleScaleDown"), (0, u "D"), (4, u "twoToTheDoubleScaleUp"), (9, u "E"), (3, u "PI"), (2, u "TAU"), (2, u "DEGREES_TO_RADIANS"), (0, u "RADIANS_TO_DEGREES")] 94

def k3m0 : Method := { name := "<init>", desc := "()V", sig := { parameters := [], returnType := none }, accessFlags := 2, code := none }
def k3c1 : Code := { maxStack := 2, maxLocals := 2, code := jdk_29_method_69_code, exceptionTable := #[], attributes := #[] }
def k3m1 : Method := { name := "min", desc := "(II)I", sig := { parameters := [.int, .int], returnType := some .int }, accessFlags := 9, code := some k3c1 }
def k3c2 : Code := { maxStack := 4, maxLocals := 4, code := jdk_29_method_70_code, exceptionTable := #[], attributes := #[] }
def k3m2 : Method := { name := "min", desc := "(JJ)J", sig := { parameters := [.long, .long], returnType := some .long }, accessFlags := 9, code := some k3c2 }
/-- java/lang/Math -/
def k3 : Class := { plain "java/lang/Math" (some 0) with
  accessFlags := 49
  interfaces := #[]
  cf := some (fileOf pool3 1 #[.nestMembers #[98]] #[{ accessFlags := 2, nameIndex := 7, descriptorIndex := 8, attributes := #[] }, { accessFlags := 9, nameIndex := 201, descriptorIndex := 335, attributes := #[] }, { accessFlags := 9, nameIndex := 201, descriptorIndex := 121, attributes := #[] }] 49 4 #[] #[{ accessFlags := 25, nameIndex := 354, descriptorIndex := 339, attributes := #[] }, { accessFlags := 25, nameIndex := 358, descriptorIndex := 339, attributes := #[] }, { accessFlags := 25, nameIndex := 361, descriptorIndex := 339, attributes := #[] }, { accessFlags := 26, nameIndex := 364, descriptorIndex := 339, attributes := #[] }, { accessFlags := 26, nameIndex := 365, descriptorIndex := 339, attributes := #[] }, { accessFlags := 26, nameIndex := 172, descriptorIndex := 173, attributes := #[] }, { accessFlags := 26, nameIndex := 176, descriptorIndex := 173, attributes := #[] }, { accessFlags := 8, nameIndex := 344, descriptorIndex := 339, attributes := #[] }, { accessFlags := 8, nameIndex := 338, descriptorIndex := 339, attributes := #[] }, { accessFlags := 4120, nameIndex := 245, descriptorIndex := 246, attributes := #[] }])
  fields := #[{ name := "E", type := .double, accessFlags := 25, slot := 0, constantValue := 0 }, { name := "PI", type := .double, accessFlags := 25, slot := 1, constantValue := 0 }, { name := "TAU", type := .double, accessFlags := 25, slot := 2, constantValue := 0 }, { name := "DEGREES_TO_RADIANS", type := .double, accessFlags := 26, slot := 3, constantValue := 0 }, { name := "RADIANS_TO_DEGREES", type := .double, accessFlags := 26, slot := 4, constantValue := 0 }, { name := "negativeZeroFloatBits", type := .long, accessFlags := 26, slot := 5, constantValue := 0 }, { name := "negativeZeroDoubleBits", type := .long, accessFlags := 26, slot := 6, constantValue := 0 }, { name := "twoToTheDoubleScaleUp", type := .double, accessFlags := 8, slot := 7, constantValue := 0 }, { name := "twoToTheDoubleScaleDown", type := .double, accessFlags := 8, slot := 8, constantValue := 0 }, { name := "$assertionsDisabled", type := .boolean, accessFlags := 4120, slot := 9, constantValue := 0 }]
  methods := #[k3m0, k3m1, k3m2]
  instanceTypes := #[]
  staticTypes := #[.double, .double, .double, .double, .double, .long, .long, .double, .double, .boolean]
  resolved := Array.replicate 460 none
  statics := none }

def pool4 : Array CpInfo := pool [(2, .class_ 4), (1, u "java/lang/Object"), (0, u "<init>"), (0, u "()V"), (1, .class_ 10), (1, u "java/lang/System"), (0, u "allowSecurityManager"), (0, u "I"), (16, u "cons"), (0, u "Ljava/io/Console;"), (77, .class_ 110), (1, u "java/lang/System$CallersHolder"), (43, u "initialErrStream"), (0, u "Ljava/io/PrintStream;"), (19, u "security"), (0, u "Ljava/lang/SecurityManager;"), (31, .class_ 209), (0, u "java/lang/System$1"), (7, u "props"), (0, u "Ljava/util/Properties;"), (2, u "lineSeparator"), (0, u "Ljava/lang/String;"), (96, .class_ 321), (1, u "java/lang/System$LoggerFinder"), (5, .class_ 328), (0, u "java/lang/System$Logger"), (67, u "err"), (2, u "out"), (91, u "notSupportedJnuEncoding"), (15, u "in"), (17, u "initialIn"), (0, u "Ljava/io/InputStream;"), (35, u "bootLayer"), (0, u "Ljava/lang/ModuleLayer;"), (99, .class_ 664), (0, u "java/lang/System$2"), (9, u "NEVER"), (2, u "MAYBE"), (49, u "arraycopy"), (0, u "(Ljava/lang/Object;ILjava/lang/Object;II)V"), (72, .class_ 802), (0, u "java/lang/System$Logger$Level")] 31

def k4m0 : Method := { name := "<init>", desc := "()V", sig := { parameters := [], returnType := none }, accessFlags := 2, code := none }
def k4m1 : Method := { name := "arraycopy", desc := "(Ljava/lang/Object;ILjava/lang/Object;II)V", sig := { parameters := [(.object "java/lang/Object"), .int, (.object "java/lang/Object"), .int, .int], returnType := none }, accessFlags := 265, code := none }
/-- java/lang/System -/
def k4 : Class := { plain "java/lang/System" (some 0) with
  accessFlags := 49
  interfaces := #[]
  cf := some (fileOf pool4 8 #[.nestMembers #[319, 327, 801, 108, 663, 208]] #[{ accessFlags := 2, nameIndex := 5, descriptorIndex := 6, attributes := #[] }, { accessFlags := 265, nameIndex := 727, descriptorIndex := 728, attributes := #[] }] 49 2 #[] #[{ accessFlags := 25, nameIndex := 507, descriptorIndex := 526, attributes := #[] }, { accessFlags := 25, nameIndex := 399, descriptorIndex := 155, attributes := #[] }, { accessFlags := 25, nameIndex := 396, descriptorIndex := 155, attributes := #[] }, { accessFlags := 10, nameIndex := 525, descriptorIndex := 526, attributes := #[] }, { accessFlags := 26, nameIndex := 674, descriptorIndex := 12, attributes := #[] }, { accessFlags := 26, nameIndex := 677, descriptorIndex := 12, attributes := #[] }, { accessFlags := 10, nameIndex := 11, descriptorIndex := 12, attributes := #[] }, { accessFlags := 74, nameIndex := 175, descriptorIndex := 176, attributes := #[] }, { accessFlags := 10, nameIndex := 491, descriptorIndex := 222, attributes := #[] }, { accessFlags := 74, nameIndex := 29, descriptorIndex := 30, attributes := #[] }, { accessFlags := 74, nameIndex := 154, descriptorIndex := 155, attributes := #[] }, { accessFlags := 10, nameIndex := 217, descriptorIndex := 218, attributes := #[] }, { accessFlags := 10, nameIndex := 221, descriptorIndex := 222, attributes := #[] }, { accessFlags := 8, nameIndex := 562, descriptorIndex := 563, attributes := #[] }])
  fields := #[{ name := "in", type := (.object "java/io/InputStream"), accessFlags := 25, slot := 0, constantValue := 0 }, { name := "out", type := (.object "java/io/PrintStream"), accessFlags := 25, slot := 1, constantValue := 0 }, { name := "err", type := (.object "java/io/PrintStream"), accessFlags := 25, slot := 2, constantValue := 0 }, { name := "initialIn", type := (.object "java/io/InputStream"), accessFlags := 10, slot := 3, constantValue := 0 }, { name := "NEVER", type := .int, accessFlags := 26, slot := 4, constantValue := 0 }, { name := "MAYBE", type := .int, accessFlags := 26, slot := 5, constantValue := 0 }, { name := "allowSecurityManager", type := .int, accessFlags := 10, slot := 6, constantValue := 0 }, { name := "security", type := (.object "java/lang/SecurityManager"), accessFlags := 74, slot := 7, constantValue := 0 }, { name := "notSupportedJnuEncoding", type := (.object "java/lang/String"), accessFlags := 10, slot := 8, constantValue := 0 }, { name := "cons", type := (.object "java/io/Console"), accessFlags := 74, slot := 9, constantValue := 0 }, { name := "initialErrStream", type := (.object "java/io/PrintStream"), accessFlags := 74, slot := 10, constantValue := 0 }, { name := "props", type := (.object "java/util/Properties"), accessFlags := 10, slot := 11, constantValue := 0 }, { name := "lineSeparator", type := (.object "java/lang/String"), accessFlags := 10, slot := 12, constantValue := 0 }, { name := "bootLayer", type := (.object "java/lang/ModuleLayer"), accessFlags := 8, slot := 13, constantValue := 0 }]
  methods := #[k4m0, k4m1]
  instanceTypes := #[]
  staticTypes := #[(.object "java/io/InputStream"), (.object "java/io/PrintStream"), (.object "java/io/PrintStream"), (.object "java/io/InputStream"), .int, .int, .int, (.object "java/lang/SecurityManager"), (.object "java/lang/String"), (.object "java/io/Console"), (.object "java/io/PrintStream"), (.object "java/util/Properties"), (.object "java/lang/String"), (.object "java/lang/ModuleLayer")]
  resolved := Array.replicate 834 none
  statics := none }

def pool5 : Array CpInfo := pool [(1, u "java/lang/Cloneable"), (0, .class_ 1), (0, u "java/lang/Object"), (0, .class_ 3)] 3

/-- java/lang/Cloneable -/
def k5 : Class := { plain "java/lang/Cloneable" (some 0) with
  accessFlags := 1537
  interfaces := #[]
  cf := some (fileOf pool5 2 #[] #[] 1537 4 #[] #[])
  fields := #[]
  methods := #[]
  instanceTypes := #[]
  staticTypes := #[]
  resolved := Array.replicate 8 none
  statics := none }

def pool6 : Array CpInfo := pool [(1, u "java/io/Serializable"), (0, .class_ 1), (0, u "java/lang/Object"), (0, .class_ 3)] 3

/-- java/io/Serializable -/
def k6 : Class := { plain "java/io/Serializable" (some 0) with
  accessFlags := 1537
  interfaces := #[]
  cf := some (fileOf pool6 2 #[] #[] 1537 4 #[] #[])
  fields := #[]
  methods := #[]
  instanceTypes := #[]
  staticTypes := #[]
  resolved := Array.replicate 8 none
  statics := none }

/-- the primitive byte -/
def k7 : Class := { plain "byte" none with kind := .primitive 'B', accessFlags := 0x411 }
/-- [B -/
def k8 : Class := { plain "[B" (some 0) with kind := .array 7 .byte, interfaces := #[5, 6], accessFlags := 1041 }

def heap : Heap := #[]
def classes : Array Class := #[k0, k1, k2, k3, k4, k5, k6, k7, k8]
def interned : List (Array UInt16 × Addr) := []
def slotsUsed : Nat := 0
def theMethod : MethodId := ⟨1, 1⟩
def args0 : Array Value := #[.long 5, .int 3, .int 2, .int 1, .int 4]
def aboutOver (below : List Frame) : State where
  vm := { classes := classes, interned := interned.toArray }
  heap := heap
  slotsUsed := slotsUsed
  threads := #[{ frames := .invoking theMethod args0 :: below }]
def below0 : List Frame := [.native { method := ⟨0, 0⟩, args := #[] }]
def about1 : State := aboutOver below0
def p0 : Program := .bare "" "" ""
def e0 : Env := launch0.env 0 0 0
theorem w_frames : about1.frames = Frame.invoking theMethod args0 :: below0 := rfl
set_option maxRecDepth 65536 in
theorem w_args : argsFit about1.vm theMethod args0 = true := by decide +kernel
set_option maxRecDepth 65536 in
theorem w_heap : heapFits about1 = true := by decide +kernel
set_option maxRecDepth 65536 in
theorem w_runnable : about1.curStatus? = some .runnable := by decide +kernel
set_option maxRecDepth 65536 in
theorem w_alone : about1.alone = true := by decide +kernel
set_option maxRecDepth 65536 in
theorem w_named : about1.methodNamed? x = some theMethod := by decide +kernel
set_option maxRecDepth 65536 in
theorem w_hears : about1.hears theMethod below0 = true := by decide +kernel
set_option maxRecDepth 65536 in
theorem w_ripe : about1.ripe theMethod args0 below0 = true := by decide +kernel
theorem w_running : about1.status = .running := rfl
set_option maxRecDepth 65536 in
theorem w_room : about1.hasRoom e0.platform room_1 = true :=
  launch0.hasRoom_least _ room_1 (by decide +kernel) (by decide +kernel) (by decide +kernel) (by decide +kernel) (by decide +kernel) (by decide +kernel)
theorem allAtoms_all (ts : List Jvm.Cond) (a : Array Jvm.Value) (st : Jvm.State) : (allAtoms ts).before a st = ts.all (fun c => c.before a st) := by
  induction ts with
  | nil => rfl
  | cons c t ih =>
    show (Jvm.Cond.and c (allAtoms t)).before a st = _
    rw [Jvm.Cond.before_and, ih, List.all_cons]
def words1 : List Jvm.Cond := Jvm.Cond.code x code maxLocals ret :: tables_1
/-- a 'code' word, met by the world's own term for the bytes: nothing is compared byte by byte -/
theorem code_word {y : MethodName} {bytes : ByteArray} {mx : Nat} {rt : Option FieldType} {a : Array Value} {s : State} {m : MethodId} {meth : Method} {c : Code} (h1 : s.methodNamed? y = some m) (h2 : s.vm.method? m = some meth) (h3 : meth.code = some c) (h4 : c.code = bytes)
    (h5 : (c.maxLocals == mx && c.exceptionTable.isEmpty && decide (c.maxStack ≤ mostOperands) && decide (meth.sig.returnType = rt) && !meth.locks && decide (parseMethodDescriptor y.desc = some meth.sig)) = true) : (Jvm.Cond.code y bytes mx rt).before a s = true := by
  simp only [Bool.and_eq_true, beq_iff_eq, Bool.not_eq_true', decide_eq_true_eq] at h5
  obtain ⟨⟨⟨⟨⟨g1, g2⟩, g3⟩, g4⟩, g5⟩, g6⟩ := h5
  simp [Cond.before, Cond.holds, Cond.value, h1, h2, h3, h4, g1, g2, g3, g4, g5, g6]
def isCode : Jvm.Cond → Bool
  | .code _ _ _ _ => true
  | _ => false
theorem all_split {L : List Jvm.Cond} {P : Jvm.Cond → Bool} (h1 : L.all (fun c => isCode c || P c) = true) (h2 : ∀ c ∈ L.filter isCode, P c = true) : L.all P = true := by
  refine List.all_eq_true.mpr fun c hc => ?_
  have h := List.all_eq_true.mp h1 c hc
  rcases Bool.eq_false_or_eq_true (isCode c) with hi | hi
  · exact h2 c (List.mem_filter.mpr ⟨hc, hi⟩)
  · simpa [hi] using h
set_option maxRecDepth 65536 in
theorem w_c0 : (Jvm.Cond.code x code maxLocals ret).before args0 about1 = true := code_word (m := ⟨1, 1⟩) (meth := k1m1) (c := k1c1) (by decide +kernel) rfl rfl rfl (by decide +kernel)
set_option maxRecDepth 65536 in
theorem w_c1 : (Jvm.Cond.code ({ cls := "com/example/chore_scheduler/chorescheduler/exec/OutputTail", name := "<init>", desc := "(I)V" } : Jvm.MethodName) prog_3_method_1_code (2 : Nat) (Option.none : Option Jvm.ClassFile.FieldType)).before args0 about1 = true := code_word (m := ⟨2, 0⟩) (meth := k2m0) (c := k2c0) (by decide +kernel) rfl rfl rfl (by decide +kernel)
set_option maxRecDepth 65536 in
theorem w_c2 : (Jvm.Cond.code ({ cls := "java/lang/Object", name := "<init>", desc := "()V" } : Jvm.MethodName) object_method_1_code (1 : Nat) (Option.none : Option Jvm.ClassFile.FieldType)).before args0 about1 = true := code_word (m := ⟨0, 0⟩) (meth := k0m0) (c := k0c0) (by decide +kernel) rfl rfl rfl (by decide +kernel)
set_option maxRecDepth 65536 in
theorem w_c3 : (Jvm.Cond.code ({ cls := "com/example/chore_scheduler/chorescheduler/exec/OutputTail", name := "write", desc := "([BII)V" } : Jvm.MethodName) prog_3_method_2_code (8 : Nat) (Option.none : Option Jvm.ClassFile.FieldType)).before args0 about1 = true := code_word (m := ⟨2, 1⟩) (meth := k2m1) (c := k2c1) (by decide +kernel) rfl rfl rfl (by decide +kernel)
set_option maxRecDepth 65536 in
theorem w_c4 : (Jvm.Cond.code ({ cls := "com/example/chore_scheduler/chorescheduler/exec/OutputTail", name := "toByteArray", desc := "()[B" } : Jvm.MethodName) prog_3_method_3_code (5 : Nat) (Option.some (Jvm.ClassFile.FieldType.array Jvm.ClassFile.FieldType.byte))).before args0 about1 = true := code_word (m := ⟨2, 2⟩) (meth := k2m2) (c := k2c2) (by decide +kernel) rfl rfl rfl (by decide +kernel)
set_option maxRecDepth 65536 in
theorem w_c5 : (Jvm.Cond.code ({ cls := "java/lang/Math", name := "min", desc := "(JJ)J" } : Jvm.MethodName) jdk_29_method_70_code (4 : Nat) (Option.some Jvm.ClassFile.FieldType.long)).before args0 about1 = true := code_word (m := ⟨3, 2⟩) (meth := k3m2) (c := k3c2) (by decide +kernel) rfl rfl rfl (by decide +kernel)
set_option maxRecDepth 65536 in
theorem w_c6 : (Jvm.Cond.code ({ cls := "java/lang/Math", name := "min", desc := "(II)I" } : Jvm.MethodName) jdk_29_method_69_code (2 : Nat) (Option.some Jvm.ClassFile.FieldType.int)).before args0 about1 = true := code_word (m := ⟨3, 1⟩) (meth := k3m1) (c := k3c1) (by decide +kernel) rfl rfl rfl (by decide +kernel)
set_option maxRecDepth 65536 in
theorem w_c7 : (Jvm.Cond.code ({ cls := "com/example/chore_scheduler/chorescheduler/exec/OutputTailToByteArrayPinLaw", name := "matches", desc := "([BI[BIIIIIII)Z" } : Jvm.MethodName) method_3_code (11 : Nat) (Option.some Jvm.ClassFile.FieldType.boolean)).before args0 about1 = true := code_word (m := ⟨1, 2⟩) (meth := k1m2) (c := k1c2) (by decide +kernel) rfl rfl rfl (by decide +kernel)
set_option maxRecDepth 65536 in
theorem w_c8 : (Jvm.Cond.code ({ cls := "com/example/chore_scheduler/chorescheduler/exec/OutputTailToByteArrayPinLaw", name := "at", desc := "([BIII[BIIIII)Z" } : Jvm.MethodName) method_4_code (10 : Nat) (Option.some Jvm.ClassFile.FieldType.boolean)).before args0 about1 = true := code_word (m := ⟨1, 3⟩) (meth := k1m3) (c := k1c3) (by decide +kernel) rfl rfl rfl (by decide +kernel)
set_option maxRecDepth 65536 in
theorem w_c9 : (Jvm.Cond.code ({ cls := "com/example/chore_scheduler/chorescheduler/exec/OutputTailToByteArrayPinLaw", name := "streamAt", desc := "([BIIIIII)B" } : Jvm.MethodName) method_5_code (8 : Nat) (Option.some Jvm.ClassFile.FieldType.byte)).before args0 about1 = true := code_word (m := ⟨1, 4⟩) (meth := k1m4) (c := k1c4) (by decide +kernel) rfl rfl rfl (by decide +kernel)
def codes1 : List Jvm.Cond := [Jvm.Cond.code x code maxLocals ret, Jvm.Cond.code ({ cls := "com/example/chore_scheduler/chorescheduler/exec/OutputTail", name := "<init>", desc := "(I)V" } : Jvm.MethodName) prog_3_method_1_code (2 : Nat) (Option.none : Option Jvm.ClassFile.FieldType), Jvm.Cond.code ({ cls := "java/lang/Object", name := "<init>", desc := "()V" } : Jvm.MethodName) object_method_1_code (1 : Nat) (Option.none : Option Jvm.ClassFile.FieldType), Jvm.Cond.code ({ cls := "com/example/chore_scheduler/chorescheduler/exec/OutputTail", name := "write", desc := "([BII)V" } : Jvm.MethodName) prog_3_method_2_code (8 : Nat) (Option.none : Option Jvm.ClassFile.FieldType), Jvm.Cond.code ({ cls := "com/example/chore_scheduler/chorescheduler/exec/OutputTail", name := "toByteArray", desc := "()[B" } : Jvm.MethodName) prog_3_method_3_code (5 : Nat) (Option.some (Jvm.ClassFile.FieldType.array Jvm.ClassFile.FieldType.byte)), Jvm.Cond.code ({ cls := "java/lang/Math", name := "min", desc := "(JJ)J" } : Jvm.MethodName) jdk_29_method_70_code (4 : Nat) (Option.some Jvm.ClassFile.FieldType.long), Jvm.Cond.code ({ cls := "java/lang/Math", name := "min", desc := "(II)I" } : Jvm.MethodName) jdk_29_method_69_code (2 : Nat) (Option.some Jvm.ClassFile.FieldType.int), Jvm.Cond.code ({ cls := "com/example/chore_scheduler/chorescheduler/exec/OutputTailToByteArrayPinLaw", name := "matches", desc := "([BI[BIIIIIII)Z" } : Jvm.MethodName) method_3_code (11 : Nat) (Option.some Jvm.ClassFile.FieldType.boolean), Jvm.Cond.code ({ cls := "com/example/chore_scheduler/chorescheduler/exec/OutputTailToByteArrayPinLaw", name := "at", desc := "([BIII[BIIIII)Z" } : Jvm.MethodName) method_4_code (10 : Nat) (Option.some Jvm.ClassFile.FieldType.boolean), Jvm.Cond.code ({ cls := "com/example/chore_scheduler/chorescheduler/exec/OutputTailToByteArrayPinLaw", name := "streamAt", desc := "([BIIIIII)B" } : Jvm.MethodName) method_5_code (8 : Nat) (Option.some Jvm.ClassFile.FieldType.byte)]
set_option maxRecDepth 65536 in
theorem codes_eq : words1.filter isCode = codes1 := rfl
theorem w_codes : ∀ c ∈ words1.filter isCode, c.before args0 about1 = true := by
  rw [codes_eq]
  intro c hc
  simp only [codes1, List.mem_cons, List.not_mem_nil, or_false] at hc
  rcases hc with rfl | rfl | rfl | rfl | rfl | rfl | rfl | rfl | rfl | rfl
  · exact w_c0
  · exact w_c1
  · exact w_c2
  · exact w_c3
  · exact w_c4
  · exact w_c5
  · exact w_c6
  · exact w_c7
  · exact w_c8
  · exact w_c9
set_option maxRecDepth 65536 in
theorem w_t1 : (words1.take 24).all (fun c => isCode c || c.before args0 about1) = true := by decide +kernel
set_option maxRecDepth 65536 in
theorem w_t2 : (words1.drop 24).all (fun c => isCode c || c.before args0 about1) = true := by decide +kernel
theorem w_tables : (allAtoms (Jvm.Cond.code x code maxLocals ret :: tables_1)).before args0 about1 = true := by
  rw [allAtoms_all]
  show words1.all (fun c => c.before args0 about1) = true
  refine all_split ?_ w_codes
  rw [← List.take_append_drop 24 words1, List.all_append, w_t1, w_t2]
  rfl
set_option maxRecDepth 65536 in
theorem w_case : (Jvm.Cond.and given_1 narrow_1).before args0 about1 = true := by decide +kernel
theorem w_applies : (headSpec (Jvm.Cond.code x code maxLocals ret :: tables_1) room_1).applies x e0.platform about1 = true :=
  (Spec.applies_iff w_frames).mpr ⟨w_running, w_runnable, w_alone, w_named, w_hears, w_ripe, w_room, w_tables⟩
theorem atStart : AtStart classFile x code maxLocals ret World_1 tables_1 room_1 Calls_1 rest_1 Pre_1 launch0 p0 e0 about1 theMethod args0 below0 :=
  ⟨lists_1, trivial, launch0.admits_env _ _ _, launch0.least_env, fairChoices_fair.cas, fairChoices_fair.clock, w_frames, w_args, w_heap, w_applies, trivial, trivial, w_case⟩
end start1
theorem witness_1 : WitnessClaimed_1 := ⟨start1.p0, start1.e0, start1.about1, start1.theMethod, start1.args0, start1.below0, start1.atStart⟩
end Jvm.Pilot.@@N@@
