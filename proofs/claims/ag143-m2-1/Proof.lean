import JvmDerived
import JvmDerived.Pilot.@@N@@Statement
import JvmDerived.Pilot.@@N@@Code
set_option linter.unusedVariables false
set_option linter.unusedSimpArgs false
namespace Own
open Jvm Jvm.ClassFile Sem Op Lib Jvm.Stand Jvm.Free Jvm.LawKit Jvm.RoadKit
def Fin (p : Program) (e : Env) (below : List Frame) (G : State) (Q : Outcome → State → Prop) : Prop :=
  ∃ s₂ o, Steps p.tables e below G s₂ ∧ s₂.status = .running ∧ Ended s₂ below o ∧ Q o s₂
def Post (s : State) (K : Option Value → Heap → List Loc → Prop) (cc ss : Nat) (o : Outcome) (U : State) : Prop :=
  ∃ v L, o = .returned v ∧ K v U.heap L ∧ FrameEnd s o U L cc ss
theorem go {p : Program} {e : Env} {below : List Frame} {G G' : State} {Q : Outcome → State → Prop} (h : ∀ t, Steps p.tables e below G' t → Steps p.tables e below G t) (k : Fin p e below G' Q) : Fin p e below G Q := by
  obtain ⟨s₂, o, h1, h2⟩ := k
  exact ⟨s₂, o, h _ h1, h2⟩
theorem start {p : Program} {e : Env} {below : List Frame} {T : State} {g g' : JFrame} {Q : Outcome → State → Prop} (q : g = g') (k : Fin p e below (T.setTop g') Q) : Fin p e below (T.setTop g) Q := q ▸ k
theorem clamp_lt {j z : Int32} {n : Nat} (hj : ¬ j < 0 ∧ j < z) (hz : z.toNatClampNeg = n) : j.toNatClampNeg < n := by
  subst hz
  have h1 := hj.1; have h2 := hj.2
  rw [Int32.lt_iff_toInt_lt] at h1 h2
  have h0 : (0 : Int32).toInt = 0 := by decide
  rw [h0] at h1
  show j.toInt.toNat < z.toInt.toNat
  omega
section A
variable {p : Program} {l : Launch} {e : Env} {R : Room} {s : State} {m : MethodId} {args : Array Value} {below : List Frame} {meth : Method} {c : Code} {T : State} {locs : List Loc} {cells slots : Nat}
theorem retAny (X : Stand p l e R s m args below meth c T locs cells slots) {v : Option Value} (hlk : meth.locks = false) (hv : meth.sig.returnType = none → v = none) {g : JFrame}
    (hstep : ∀ fs, (∀ (f : JFrame) (acts : List Action), f.method = m → f.locked = none → f.entered = [] → (doReturn e (T.setTop f) acts v).1 = T.setFrames fs) → Steps p.tables e below (T.setTop g) (T.setFrames fs))
    {K : Option Value → Heap → List Loc → Prop} {cc ss : Nat} (hc : cells ≤ cc) (hs : slots ≤ ss) (hk : K v T.heap locs) : Fin p e below (T.setTop g) (Post s K cc ss) := by
  obtain ⟨fs, hr, hrun, hended, hW, hsame⟩ := X.leave (v := v) hv hlk
  exact ⟨_, _, hstep fs hr, hrun, hended, _, _, rfl, hk, ⟨_, rfl⟩, hW, hsame.mono hc hs⟩
theorem retI (X : Stand p l e R s m args below meth c T locs cells slots) (hx : p.tables.exec = Jvm.exec) (hlk : meth.locks = false) (hret : meth.sig.returnType = some .int) {pc : Nat} {Ls : Array Slot} {z : Int32} {rest : List Value} (hd : decode c.code pc = .ok (.ireturn, 1))
    {K : Option Value → Heap → List Loc → Prop} {cc ss : Nat} (hc : cells ≤ cc) (hs : slots ≤ ss) (hk : K (some (.int z)) T.heap locs) : Fin p e below (T.setTop (mkF m pc Ls (.int z :: rest))) (Post s K cc ss) := by
  refine retAny X (v := some (.int z)) hlk (fun h => by rw [hret] at h; cases h) (fun fs hl => ?_) hc hs hk
  have hm' : T.vm.method? m = some meth := X.method'
  have hn : narrow .int (.int z) = .int z := rfl
  show Steps p.tables e below (T.setTop { method := m, pc := pc, locals := Ls, stack := _ :: rest, locked := none }) _
  jvm_step X.here [X.here.top, hx, hd, hm', hret, hn]
  first | (intro acts; rw [hl _ acts rfl rfl rfl]) | rw [hl _ _ rfl rfl rfl]
  exact Steps.refl _
theorem retN (X : Stand p l e R s m args below meth c T locs cells slots) (hx : p.tables.exec = Jvm.exec) (hlk : meth.locks = false) {t : FieldType} (hret : meth.sig.returnType = some t) (ht : t = .boolean ∨ t = .byte ∨ t = .char ∨ t = .short) {pc : Nat} {Ls : Array Slot} {z : Int32} {rest : List Value} (hd : decode c.code pc = .ok (.ireturn, 1))
    {K : Option Value → Heap → List Loc → Prop} {cc ss : Nat} (hc : cells ≤ cc) (hs : slots ≤ ss) (hk : K (some (.int (nar t z))) T.heap locs) : Fin p e below (T.setTop (mkF m pc Ls (.int z :: rest))) (Post s K cc ss) :=
  retAny X (v := some (.int (nar t z))) hlk (fun h => by rw [hret] at h; cases h) (fun fs hl => RoadKit.retN X hx hret ht hd hl) hc hs hk
theorem retJ (X : Stand p l e R s m args below meth c T locs cells slots) (hx : p.tables.exec = Jvm.exec) (hlk : meth.locks = false) (hret : meth.sig.returnType = some .long) {pc : Nat} {Ls : Array Slot} {z : Int64} {rest : List Value} (hd : decode c.code pc = .ok (.lreturn, 1))
    {K : Option Value → Heap → List Loc → Prop} {cc ss : Nat} (hc : cells ≤ cc) (hs : slots ≤ ss) (hk : K (some (.long z)) T.heap locs) : Fin p e below (T.setTop (mkF m pc Ls (.long z :: rest))) (Post s K cc ss) := by
  refine retAny X (v := some (.long z)) hlk (fun h => by rw [hret] at h; cases h) (fun fs hl => ?_) hc hs hk
  have hm' : T.vm.method? m = some meth := X.method'
  show Steps p.tables e below (T.setTop { method := m, pc := pc, locals := Ls, stack := _ :: rest, locked := none }) _
  jvm_step X.here [X.here.top, hx, hd, hm', hret, narrow]
  first | (intro acts; rw [hl _ acts rfl rfl rfl]) | rw [hl _ _ rfl rfl rfl]
  exact Steps.refl _
theorem retV (X : Stand p l e R s m args below meth c T locs cells slots) (hx : p.tables.exec = Jvm.exec) (hlk : meth.locks = false) (hret : meth.sig.returnType = none) {pc : Nat} {Ls : Array Slot} (hd : decode c.code pc = .ok (.return_, 1))
    {K : Option Value → Heap → List Loc → Prop} {cc ss : Nat} (hc : cells ≤ cc) (hs : slots ≤ ss) (hk : K none T.heap locs) : Fin p e below (T.setTop (mkF m pc Ls [])) (Post s K cc ss) :=
  retAny X (v := none) hlk (fun _ => rfl) (fun fs hl => X.returnOut hx hret hd hl) hc hs hk
theorem cS {Z : State} {a0 : Array Value} {h : Heap} (X : Stand p l e R s m args below meth c T locs cells slots) (hx : p.tables.exec = Jvm.exec) (hZ : Z.Warmed39 s.vm) {own : String} {index : Nat} {y : MethodName} {bytes : ByteArray} {maxL : Nat} {ret : Option FieldType} {rm : Room} {as' : Array Value} {Q : Option Value → Heap → List Loc → Prop}
    (hown : s.vm.findClass own = some m.cls) (w1 : (Cond.methodLink own index y).before a0 Z = true) (w2 : (Cond.static y).before a0 Z = true) (w3 : (Cond.initialized y.cls).before a0 Z = true) (w4 : (Cond.code y bytes maxL ret).before a0 Z = true)
    (hy : y.cls ≠ "java/lang/invoke/MethodHandle" ∧ y.cls ≠ "java/lang/invoke/VarHandle")
    (hM : MetFree l y (head1 [Cond.code y bytes maxL ret] rm) (fun a U => a = as' ∧ Z.Warmed39 U.vm ∧ U.heap = h) (fun _ _ _ _ _ => True) (fun _ U o U' => ∃ v L, o = .returned v ∧ Q v U'.heap L ∧ FrameEnd U o U' L rm.cells rm.slots))
    (hf : rm.frames + 1 ≤ R.frames) {W : Nat} (hl : W + (maxL + 11) + rm.locals ≤ R.locals) {pc : Nat} {ls : Array Slot} {argsL rest : List Value} (hsize : ls.size = c.maxLocals) (hlen : ∀ sig, parseMethodDescriptor y.desc = some sig → argsL.length = sig.parameters.length)
    (has : argsL.toArray = as') (hW : (rest.map fun v => v.category).sum ≤ W) (hd : decode c.code pc = .ok (.invokestatic index, 3)) (eT : T.heap = h) (hcc : cells + rm.cells ≤ R.cells) (hss : slots + rm.slots ≤ R.slots) {P : Outcome → State → Prop}
    (k : ∀ T' L v, Stand p l e R s m args below meth c T' (locs ++ L) (cells + rm.cells) (slots + rm.slots) → Q v T'.heap L → Fin p e below (T'.setTop (mkF m (pc + 3) ls (v.toList ++ rest))) P) :
    Fin p e below (T.setTop (mkF m pc ls (argsL.reverse ++ rest))) P := by
  obtain ⟨v, _, ⟨T', L', k', n'⟩, -, X', ⟨L, hQ, e1, e2, e3⟩, st⟩ := Jvm.LawKit.callS X hx (y := y) hown (mvT hZ w1) (mvT hZ w2) (mvT hZ w3) (mvT hZ w4) hy (backOf (W := W) hM hZ w4 w3 hf hl) (g := mkF m pc ls (argsL.reverse ++ rest)) rfl hsize (argsL := argsL) (rest := rest) hlen rfl
    (by show 2 * 0 + _ ≤ _; omega) hd (fun _ _ => ⟨has, eT, hcc, hss⟩)
  dsimp only [Pt.U, Pt.locs, Pt.cells, Pt.slots] at X' e1 e2 e3 st hQ
  subst e1 e2 e3
  exact go st (k T' L v X' hQ)
theorem cI {Z : State} {a0 : Array Value} {h : Heap} (X : Stand p l e R s m args below meth c T locs cells slots) (hx : p.tables.exec = Jvm.exec) (hZ : Z.Warmed39 s.vm) {own : String} {index : Nat} {y : MethodName} {bytes : ByteArray} {maxL : Nat} {rm : Room} {as' : Array Value} {Q : Option Value → Heap → List Loc → Prop}
    (hy1 : y.name = "<init>") (hown : s.vm.findClass own = some m.cls) (w1 : (Cond.methodLink own index y).before a0 Z = true) (w2 : (Cond.instanceMethod y).before a0 Z = true) (w3 : (Cond.initialized y.cls).before a0 Z = true) (w4 : (Cond.code y bytes maxL none).before a0 Z = true)
    (hy : y.cls ≠ "java/lang/invoke/MethodHandle" ∧ y.cls ≠ "java/lang/invoke/VarHandle")
    (hM : MetFree l y (head1 [Cond.code y bytes maxL none] rm) (fun a U => a = as' ∧ Z.Warmed39 U.vm ∧ U.heap = h) (fun _ _ _ _ _ => True) (fun _ U o U' => ∃ v L, o = .returned v ∧ Q v U'.heap L ∧ FrameEnd U o U' L rm.cells rm.slots))
    (hf : rm.frames + 1 ≤ R.frames) {W : Nat} (hl : W + (maxL + 11) + rm.locals ≤ R.locals) {pc : Nat} {ls : Array Slot} {a : Addr} {argsL rest : List Value} (hsize : ls.size = c.maxLocals) (hlen : ∀ sig, parseMethodDescriptor y.desc = some sig → argsL.length = sig.parameters.length)
    (has : (Value.ref a :: argsL).toArray = as') (hW : (rest.map fun v => v.category).sum ≤ W) (hd : decode c.code pc = .ok (.invokespecial index, 3)) (eT : T.heap = h) (hcc : cells + rm.cells ≤ R.cells) (hss : slots + rm.slots ≤ R.slots) {P : Outcome → State → Prop}
    (k : ∀ T' L v, Stand p l e R s m args below meth c T' (locs ++ L) (cells + rm.cells) (slots + rm.slots) → Q v T'.heap L → Fin p e below (T'.setTop (mkF m (pc + 3) ls (v.toList ++ rest))) P) :
    Fin p e below (T.setTop (mkF m pc ls (argsL.reverse ++ .ref a :: rest))) P := by
  obtain ⟨v, _, ⟨T', L', k', n'⟩, -, X', ⟨L, hQ, e1, e2, e3⟩, st⟩ := X.specialBack hx (y := y) hy1 hown (mvT hZ w1) (mvT hZ w2) (mvT hZ w4) hy (backOf (W := W) hM hZ w4 w3 hf hl) (g := mkF m pc ls (argsL.reverse ++ .ref a :: rest)) rfl hsize (Steps.refl _) (a := a) (argsL := argsL) (rest := rest) hlen rfl
    (by show 2 * 0 + _ ≤ _; omega) hd (fun _ _ => ⟨has, eT, hcc, hss⟩)
  dsimp only [Pt.U, Pt.locs, Pt.cells, Pt.slots] at X' e1 e2 e3 st hQ
  subst e1 e2 e3
  exact go (fun t kt => st.trans kt) (k T' L v X' hQ)
theorem cV {Z : State} {a0 : Array Value} {h : Heap} (X : Stand p l e R s m args below meth c T locs cells slots) (hx : p.tables.exec = Jvm.exec) (hZ : Z.Warmed39 s.vm) {own C : String} {index : Nat} {y z : MethodName} {bytes : ByteArray} {maxL : Nat} {ret : Option FieldType} {rm : Room} {as' : Array Value} {Q : Option Value → Heap → List Loc → Prop}
    (hown : s.vm.findClass own = some m.cls) (w1 : (Cond.methodLink own index y).before a0 Z = true) (w2 : (Cond.declares y).before a0 Z = true) (hnf : NotFace s y) (w5 : (Cond.selects C y z).before a0 Z = true) (w6 : (Cond.instanceMethod z).before a0 Z = true) (w3 : (Cond.initialized z.cls).before a0 Z = true) (w4 : (Cond.code z bytes maxL ret).before a0 Z = true)
    (hy : y.cls ≠ "java/lang/invoke/MethodHandle" ∧ y.cls ≠ "java/lang/invoke/VarHandle")
    (hM : MetFree l z (head1 [Cond.code z bytes maxL ret] rm) (fun a U => a = as' ∧ Z.Warmed39 U.vm ∧ U.heap = h) (fun _ _ _ _ _ => True) (fun _ U o U' => ∃ v L, o = .returned v ∧ Q v U'.heap L ∧ FrameEnd U o U' L rm.cells rm.slots))
    (hf : rm.frames + 1 ≤ R.frames) {W : Nat} (hl : W + (maxL + 11) + rm.locals ≤ R.locals) {pc : Nat} {ls : Array Slot} {a : Addr} {argsL rest : List Value} (E : Exa Z h a C) (hsize : ls.size = c.maxLocals) (hlen : ∀ sig, parseMethodDescriptor y.desc = some sig → argsL.length = sig.parameters.length)
    (has : (Value.ref a :: argsL).toArray = as') (hW : (rest.map fun v => v.category).sum ≤ W) (hd : decode c.code pc = .ok (.invokevirtual index, 3)) (eT : T.heap = h) (hcc : cells + rm.cells ≤ R.cells) (hss : slots + rm.slots ≤ R.slots) {P : Outcome → State → Prop}
    (k : ∀ T' L v, Stand p l e R s m args below meth c T' (locs ++ L) (cells + rm.cells) (slots + rm.slots) → Q v T'.heap L → Fin p e below (T'.setTop (mkF m (pc + 3) ls (v.toList ++ rest))) P) :
    Fin p e below (T.setTop (mkF m pc ls (argsL.reverse ++ .ref a :: rest))) P := by
  obtain ⟨cq, kq, qa, qb, qc⟩ := isOf hZ eT E
  obtain ⟨v, _, ⟨T', L', k', n'⟩, -, X', ⟨L, hQ, e1, e2, e3⟩, st⟩ := X.virtualBack hx (y := y) (z := z) hown (mvT hZ w1) (mvT hZ w2) hnf (mvT hZ w5) (mvT hZ w6) hy (backOf (W := W) hM hZ w4 w3 hf hl) qa qc (g := mkF m pc ls (argsL.reverse ++ .ref a :: rest)) rfl hsize (Steps.refl _) (argsL := argsL) (rest := rest) hlen rfl
    (by show 2 * 0 + _ ≤ _; omega) hd (fun _ _ => ⟨has, eT, hcc, hss⟩)
  dsimp only [Pt.U, Pt.locs, Pt.cells, Pt.slots] at X' e1 e2 e3 st hQ
  subst e1 e2 e3
  exact go (fun t kt => st.trans kt) (k T' L v X' hQ)
theorem newA {Z : State} {a0 : Array Value} {h : Heap} (X : Stand p l e R s m args below meth c T locs cells slots) (hx : p.tables.exec = Jvm.exec) (hZ : Z.Warmed39 s.vm) {aty : ArrayType} (w : (Cond.arrayClass (newarray.typeOf aty)).before a0 Z = true) (eT : T.heap = h)
    {pc : Nat} {ls : Array Slot} {n : Int32} {rest : List Value} (hd : decode c.code pc = .ok (.newarray aty, 2)) (hn : ¬ n < 0) (cap : Nat) (hcap : n.toNatClampNeg ≤ cap) (hb : cap * 8 ≤ 536870912) (hc : cells + 1 ≤ R.cells) (hl : slots + cap ≤ R.slots) {P : Outcome → State → Prop}
    (k : ∀ T' h' b kA, Stand p l e R s m args below meth c T' locs (cells + 1) (slots + cap) → T'.heap = h' → Ext h h' → b = h.size → Arv Z h' b kA (newarray.typeOf aty) n [] (defaultValue (newarray.typeOf aty)) → Fin p e below (T'.setTop (mkF m (pc + 2) ls (.ref b :: rest))) P) :
    Fin p e below (T.setTop (mkF m pc ls (.int n :: rest))) P := by
  obtain ⟨T', h', kA, X', e', E', A', st⟩ := newP X hx hZ w eT (g := mkF m pc ls (.int n :: rest)) rfl hd rfl hn hcap hb hc hl
  exact go st (k T' h' _ kA X' e' E' rfl (Arv.new A' hn))
theorem stI {Z : State} {h : Heap} {a : Addr} {kA : ClassId} {z : Int32} {vs : List Value} {dv : Value} (X : Stand p l e R s m args below meth c T locs cells slots) (hx : p.tables.exec = Jvm.exec) (hZ : Z.Warmed39 s.vm) (eT : T.heap = h) (V : Arv Z h a kA .int z vs dv)
    {pc : Nat} {ls : Array Slot} {j x : Int32} {rest : List Value} (hd : decode c.code pc = .ok (.iastore, 1)) (hj : ¬ j < 0 ∧ j < z) (i : Nat) (hi : j.toNatClampNeg = i) (hlen : i < vs.length) {P : Outcome → State → Prop}
    (k : ∀ T' h', Stand p l e R s m args below meth c T' (locs ++ [⟨a, j.toNatClampNeg⟩]) cells slots → T'.heap = h' → Wr h h' a j.toNatClampNeg (.int x) → Arv Z h' a kA .int z (vs.set i (.int x)) dv → Fin p e below (T'.setTop (mkF m (pc + 1) ls rest)) P) :
    Fin p e below (T.setTop (mkF m pc ls (.int x :: .int j :: .ref a :: rest))) P := by
  obtain ⟨cl, Ar, q, S, N, H, G⟩ := V
  obtain ⟨T', h', X', e', W', st⟩ := RoadKit.stI X hx hZ eT Ar (j := j) (inb_of S hj) (g := mkF m pc ls (.int x :: .int j :: .ref a :: rest)) rfl rfl hd
  exact go st (k T' h' X' e' W' (Arv.set Ar q S N H G rfl W' i hi hlen))
theorem stJ {Z : State} {h : Heap} {a : Addr} {kA : ClassId} {z : Int32} {vs : List Value} {dv : Value} (X : Stand p l e R s m args below meth c T locs cells slots) (hx : p.tables.exec = Jvm.exec) (hZ : Z.Warmed39 s.vm) (eT : T.heap = h) (V : Arv Z h a kA .long z vs dv)
    {pc : Nat} {ls : Array Slot} {j : Int32} {x : Int64} {rest : List Value} (hd : decode c.code pc = .ok (.lastore, 1)) (hj : ¬ j < 0 ∧ j < z) (i : Nat) (hi : j.toNatClampNeg = i) (hlen : i < vs.length) {P : Outcome → State → Prop}
    (k : ∀ T' h', Stand p l e R s m args below meth c T' (locs ++ [⟨a, j.toNatClampNeg⟩]) cells slots → T'.heap = h' → Wr h h' a j.toNatClampNeg (.long x) → Arv Z h' a kA .long z (vs.set i (.long x)) dv → Fin p e below (T'.setTop (mkF m (pc + 1) ls rest)) P) :
    Fin p e below (T.setTop (mkF m pc ls (.long x :: .int j :: .ref a :: rest))) P := by
  obtain ⟨cl, Ar, q, S, N, H, G⟩ := V
  obtain ⟨T', h', X', e', W', st⟩ := RoadKit.stJ X hx hZ eT Ar (j := j) (inb_of S hj) (g := mkF m pc ls (.long x :: .int j :: .ref a :: rest)) rfl rfl hd
  exact go st (k T' h' X' e' W' (Arv.set Ar q S N H G rfl W' i hi hlen))
theorem stB {Z : State} {h : Heap} {a : Addr} {kA : ClassId} {z : Int32} {vs : List Value} {dv : Value} (X : Stand p l e R s m args below meth c T locs cells slots) (hx : p.tables.exec = Jvm.exec) (hZ : Z.Warmed39 s.vm) (eT : T.heap = h) (V : Arv Z h a kA .byte z vs dv)
    {pc : Nat} {ls : Array Slot} {j x : Int32} {rest : List Value} (hd : decode c.code pc = .ok (.bastore, 1)) (hj : ¬ j < 0 ∧ j < z) (i : Nat) (hi : j.toNatClampNeg = i) (hlen : i < vs.length) {P : Outcome → State → Prop}
    (k : ∀ T' h', Stand p l e R s m args below meth c T' (locs ++ [⟨a, j.toNatClampNeg⟩]) cells slots → T'.heap = h' → Wr h h' a j.toNatClampNeg (.int (nar .byte x)) → Arv Z h' a kA .byte z (vs.set i (.int (nar .byte x))) dv → Fin p e below (T'.setTop (mkF m (pc + 1) ls rest)) P) :
    Fin p e below (T.setTop (mkF m pc ls (.int x :: .int j :: .ref a :: rest))) P := by
  obtain ⟨cl, Ar, q, S, N, H, G⟩ := V
  obtain ⟨T', h', X', e', W', st⟩ := RoadKit.stB X hx hZ eT Ar (j := j) (inb_of S hj) (g := mkF m pc ls (.int x :: .int j :: .ref a :: rest)) rfl rfl hd
  exact go st (k T' h' X' e' W' (Arv.set Ar q S N H G (fits_nar_byte _) W' i hi hlen))
theorem stC {Z : State} {h : Heap} {a : Addr} {kA : ClassId} {z : Int32} {vs : List Value} {dv : Value} (X : Stand p l e R s m args below meth c T locs cells slots) (hx : p.tables.exec = Jvm.exec) (hZ : Z.Warmed39 s.vm) (eT : T.heap = h) (V : Arv Z h a kA .char z vs dv)
    {pc : Nat} {ls : Array Slot} {j x : Int32} {rest : List Value} (hd : decode c.code pc = .ok (.castore, 1)) (hj : ¬ j < 0 ∧ j < z) (i : Nat) (hi : j.toNatClampNeg = i) (hlen : i < vs.length) {P : Outcome → State → Prop}
    (k : ∀ T' h', Stand p l e R s m args below meth c T' (locs ++ [⟨a, j.toNatClampNeg⟩]) cells slots → T'.heap = h' → Wr h h' a j.toNatClampNeg (.int (nar .char x)) → Arv Z h' a kA .char z (vs.set i (.int (nar .char x))) dv → Fin p e below (T'.setTop (mkF m (pc + 1) ls rest)) P) :
    Fin p e below (T.setTop (mkF m pc ls (.int x :: .int j :: .ref a :: rest))) P := by
  obtain ⟨cl, Ar, q, S, N, H, G⟩ := V
  obtain ⟨T', h', X', e', W', st⟩ := RoadKit.stC X hx hZ eT Ar (j := j) (inb_of S hj) (g := mkF m pc ls (.int x :: .int j :: .ref a :: rest)) rfl rfl hd
  exact go st (k T' h' X' e' W' (Arv.set Ar q S N H G (fits_nar_char _) W' i hi hlen))
theorem alen {Z : State} {h : Heap} {a : Addr} {kA : ClassId} {ty : FieldType} {z : Int32} {vs : List Value} {dv : Value} (X : Stand p l e R s m args below meth c T locs cells slots) (hx : p.tables.exec = Jvm.exec) (hZ : Z.Warmed39 s.vm) (eT : T.heap = h) (V : Arv Z h a kA ty z vs dv)
    {pc : Nat} {ls : Array Slot} {rest : List Value} (hd : decode c.code pc = .ok (.arraylength, 1)) {P : Outcome → State → Prop} (k : Fin p e below (T.setTop (mkF m (pc + 1) ls (.int z :: rest))) P) :
    Fin p e below (T.setTop (mkF m pc ls (.ref a :: rest))) P := by
  obtain ⟨cl, Ar, q, S, N, H, G⟩ := V
  refine go (fun t kt => X.arraylength hx (by rw [eT]; exact Ar.1) (State.isArrayOf_alike hZ.alike Ar.2.1) (g := mkF m pc ls (.ref a :: rest)) rfl rfl hd t kt) ?_
  rw [len_of S N]
  exact k
theorem arv_at {Z : State} {h : Heap} {a : Addr} {kA : ClassId} {ty : FieldType} {z : Int32} {vs : List Value} {dv : Value} (V : Arv Z h a kA ty z vs dv) {j : Int32} (hj : ¬ j < 0 ∧ j < z) :
    ∃ cl, Arr Z h a cl ty ∧ ¬ (j < 0 ∨ cl.slots.size ≤ j.toNatClampNeg) ∧ cl.slots[j.toNatClampNeg]? = some (vs.getD j.toNatClampNeg dv) ∧ fits ty (vs.getD j.toNatClampNeg dv) = true := by
  obtain ⟨cl, Ar, q, S, N, H, G⟩ := V
  have hin := inb_of S hj
  have hlt : j.toNatClampNeg < cl.slots.size := Nat.lt_of_not_le fun q => hin (Or.inr q)
  exact ⟨cl, Ar, hin, H _ hlt, G _ hlt⟩
theorem ldI {Z : State} {h : Heap} {a : Addr} {kA : ClassId} {z : Int32} {vs : List Value} {dv : Value} (X : Stand p l e R s m args below meth c T locs cells slots) (hx : p.tables.exec = Jvm.exec) (hZ : Z.Warmed39 s.vm) (eT : T.heap = h) (V : Arv Z h a kA .int z vs dv)
    {pc : Nat} {ls : Array Slot} {j : Int32} {rest : List Value} (hd : decode c.code pc = .ok (.iaload, 1)) (hj : ¬ j < 0 ∧ j < z) {P : Outcome → State → Prop} (k : ∀ x, vs.getD j.toNatClampNeg dv = .int x → Fin p e below (T.setTop (mkF m (pc + 1) ls (.int x :: rest))) P) :
    Fin p e below (T.setTop (mkF m pc ls (.int j :: .ref a :: rest))) P := by
  obtain ⟨cl, Ar, hin, hat, hf⟩ := arv_at V hj
  obtain ⟨x, hx'⟩ := fit_I hf (Or.inl rfl)
  refine go (fun t kt => X.iaload hx (j := j) (v := .int x) (by rw [eT]; exact Ar.1) (State.isArrayOf_alike hZ.alike Ar.2.1) Ar.2.2 hin (by rw [hat, hx']) (g := mkF m pc ls (.int j :: .ref a :: rest)) rfl rfl hd t kt) (k x hx')
theorem ldJ {Z : State} {h : Heap} {a : Addr} {kA : ClassId} {z : Int32} {vs : List Value} {dv : Value} (X : Stand p l e R s m args below meth c T locs cells slots) (hx : p.tables.exec = Jvm.exec) (hZ : Z.Warmed39 s.vm) (eT : T.heap = h) (V : Arv Z h a kA .long z vs dv)
    {pc : Nat} {ls : Array Slot} {j : Int32} {rest : List Value} (hd : decode c.code pc = .ok (.laload, 1)) (hj : ¬ j < 0 ∧ j < z) {P : Outcome → State → Prop} (k : ∀ x, vs.getD j.toNatClampNeg dv = .long x → Fin p e below (T.setTop (mkF m (pc + 1) ls (.long x :: rest))) P) :
    Fin p e below (T.setTop (mkF m pc ls (.int j :: .ref a :: rest))) P := by
  obtain ⟨cl, Ar, hin, hat, hf⟩ := arv_at V hj
  obtain ⟨x, hx'⟩ := fit_J hf
  refine go (fun t kt => X.laload hx (j := j) (v := .long x) (by rw [eT]; exact Ar.1) (State.isArrayOf_alike hZ.alike Ar.2.1) Ar.2.2 hin (by rw [hat, hx']) (g := mkF m pc ls (.int j :: .ref a :: rest)) rfl rfl hd t kt) (k x hx')
theorem ldB {Z : State} {h : Heap} {a : Addr} {kA : ClassId} {z : Int32} {vs : List Value} {dv : Value} (X : Stand p l e R s m args below meth c T locs cells slots) (hx : p.tables.exec = Jvm.exec) (hZ : Z.Warmed39 s.vm) (eT : T.heap = h) (V : Arv Z h a kA .byte z vs dv)
    {pc : Nat} {ls : Array Slot} {j : Int32} {rest : List Value} (hd : decode c.code pc = .ok (.baload, 1)) (hj : ¬ j < 0 ∧ j < z) {P : Outcome → State → Prop} (k : ∀ x, vs.getD j.toNatClampNeg dv = .int x → Fin p e below (T.setTop (mkF m (pc + 1) ls (.int x :: rest))) P) :
    Fin p e below (T.setTop (mkF m pc ls (.int j :: .ref a :: rest))) P := by
  obtain ⟨cl, Ar, hin, hat, hf⟩ := arv_at V hj
  obtain ⟨x, hx'⟩ := fit_I hf (Or.inr (Or.inr (Or.inl rfl)))
  refine go (fun t kt => X.baloadBytes hx (j := j) (v := .int x) (by rw [eT]; exact Ar.1) (State.isArrayOf_alike hZ.alike Ar.2.1) Ar.2.2 hin (by rw [hat, hx']) (g := mkF m pc ls (.int j :: .ref a :: rest)) rfl rfl hd t kt) (k x hx')
theorem ldC {Z : State} {h : Heap} {a : Addr} {kA : ClassId} {z : Int32} {vs : List Value} {dv : Value} (X : Stand p l e R s m args below meth c T locs cells slots) (hx : p.tables.exec = Jvm.exec) (hZ : Z.Warmed39 s.vm) (eT : T.heap = h) (V : Arv Z h a kA .char z vs dv)
    {pc : Nat} {ls : Array Slot} {j : Int32} {rest : List Value} (hd : decode c.code pc = .ok (.caload, 1)) (hj : ¬ j < 0 ∧ j < z) {P : Outcome → State → Prop} (k : ∀ x, vs.getD j.toNatClampNeg dv = .int x → Fin p e below (T.setTop (mkF m (pc + 1) ls (.int x :: rest))) P) :
    Fin p e below (T.setTop (mkF m pc ls (.int j :: .ref a :: rest))) P := by
  obtain ⟨cl, Ar, hin, hat, hf⟩ := arv_at V hj
  obtain ⟨x, hx'⟩ := fit_I hf (Or.inr (Or.inr (Or.inr (Or.inl rfl))))
  refine go (fun t kt => X.caload hx (j := j) (v := .int x) (by rw [eT]; exact Ar.1) (State.isArrayOf_alike hZ.alike Ar.2.1) Ar.2.2 hin (by rw [hat, hx']) (g := mkF m pc ls (.int j :: .ref a :: rest)) rfl rfl hd t kt) (k x hx')
theorem ldR {Z : State} {h : Heap} {a : Addr} {kA : ClassId} {ty : FieldType} {z : Int32} {vs : List Value} {dv : Value} (X : Stand p l e R s m args below meth c T locs cells slots) (hx : p.tables.exec = Jvm.exec) (hZ : Z.Warmed39 s.vm) (eT : T.heap = h) (V : Arv Z h a kA ty z vs dv) (ht : ty.isReference = true)
    {pc : Nat} {ls : Array Slot} {j : Int32} {rest : List Value} (hd : decode c.code pc = .ok (.aaload, 1)) (hj : ¬ j < 0 ∧ j < z) {w : Value} (hv : vs.getD j.toNatClampNeg dv = w) {P : Outcome → State → Prop} (k : Fin p e below (T.setTop (mkF m (pc + 1) ls (w :: rest))) P) :
    Fin p e below (T.setTop (mkF m pc ls (.int j :: .ref a :: rest))) P := by
  obtain ⟨cl, Ar, hin, hat, hf⟩ := arv_at V hj
  exact go (fun t kt => X.aaload hx (j := j) (v := w) (by rw [eT]; exact Ar.1) (State.isArrayOf_alike hZ.alike Ar.2.1) ht Ar.2.2 hin (by rw [hat, hv]) (g := mkF m pc ls (.int j :: .ref a :: rest)) rfl rfl hd t kt) k
theorem ldBc {Z : State} {h : Heap} {a : Addr} {cl : Cell} (X : Stand p l e R s m args below meth c T locs cells slots) (hx : p.tables.exec = Jvm.exec) (hZ : Z.Warmed39 s.vm) (eT : T.heap = h) (A : Arr Z h a cl .byte)
    {pc : Nat} {ls : Array Slot} {j x : Int32} {rest : List Value} (hd : decode c.code pc = .ok (.baload, 1)) (hin : ¬ (j < 0 ∨ cl.slots.size ≤ j.toNatClampNeg)) (hv : cl.slots[j.toNatClampNeg]? = some (.int x)) {P : Outcome → State → Prop} (k : Fin p e below (T.setTop (mkF m (pc + 1) ls (.int x :: rest))) P) :
    Fin p e below (T.setTop (mkF m pc ls (.int j :: .ref a :: rest))) P :=
  go (fun t kt => X.baloadBytes hx (j := j) (v := .int x) (by rw [eT]; exact A.1) (State.isArrayOf_alike hZ.alike A.2.1) A.2.2 hin hv (g := mkF m pc ls (.int j :: .ref a :: rest)) rfl rfl hd t kt) k
theorem alenC {Z : State} {h : Heap} {a : Addr} {cl : Cell} {ty : FieldType} {z : Int32} (X : Stand p l e R s m args below meth c T locs cells slots) (hx : p.tables.exec = Jvm.exec) (hZ : Z.Warmed39 s.vm) (eT : T.heap = h) (A : Arr Z h a cl ty) (hz : cl.slots.size.toInt32 = z)
    {pc : Nat} {ls : Array Slot} {rest : List Value} (hd : decode c.code pc = .ok (.arraylength, 1)) {P : Outcome → State → Prop} (k : Fin p e below (T.setTop (mkF m (pc + 1) ls (.int z :: rest))) P) :
    Fin p e below (T.setTop (mkF m pc ls (.ref a :: rest))) P := by
  refine go (fun t kt => X.arraylength hx (by rw [eT]; exact A.1) (State.isArrayOf_alike hZ.alike A.2.1) (g := mkF m pc ls (.ref a :: rest)) rfl rfl hd t kt) ?_
  rw [hz]
  exact k
theorem retR (X : Stand p l e R s m args below meth c T locs cells slots) (hx : p.tables.exec = Jvm.exec) (hlk : meth.locks = false) {t : FieldType} (hret : meth.sig.returnType = some t) (ht : t.isReference = true) {pc : Nat} {Ls : Array Slot} {z : Value} (hz : z.isRef = true) {rest : List Value} (hd : decode c.code pc = .ok (.areturn, 1))
    {K : Option Value → Heap → List Loc → Prop} {cc ss : Nat} (hc : cells ≤ cc) (hs : slots ≤ ss) (hk : K (some z) T.heap locs) : Fin p e below (T.setTop (mkF m pc Ls (z :: rest))) (Post s K cc ss) := by
  refine retAny X (v := some z) hlk (fun h => by rw [hret] at h; cases h) (fun fs hl => ?_) hc hs hk
  have hm' : T.vm.method? m = some meth := X.method'
  show Steps p.tables e below (T.setTop { method := m, pc := pc, locals := Ls, stack := _ :: rest, locked := none }) _
  jvm_step X.here [X.here.top, hx, hd, hm', hret, ht, hz]
  first | (intro acts; rw [hl _ acts rfl rfl rfl]) | rw [hl _ _ rfl rfl rfl]
  exact Steps.refl _
theorem cP {Z : State} {a0 : Array Value} {h : Heap} (X : Stand p l e R s m args below meth c T locs cells slots) (hx : p.tables.exec = Jvm.exec) (hZ : Z.Warmed39 s.vm) {own C : String} {index : Nat} {y y' : MethodName} {bytes : ByteArray} {maxL : Nat} {ret : Option FieldType} {rm : Room} {as' : Array Value} {Q : Option Value → Heap → List Loc → Prop}
    (hown : s.vm.findClass own = some m.cls) (w1 : (Cond.methodLink own index y).before a0 Z = true) (w2 : (Cond.instanceMethod y).before a0 Z = true) (w5 : (Cond.privateMethod y).before a0 Z = true) (w7 : (Cond.selects C y' y').before a0 Z = true) (hcl : y'.cls = y.cls) (w3 : (Cond.initialized y.cls).before a0 Z = true) (w4 : (Cond.code y bytes maxL ret).before a0 Z = true)
    (hy : y.cls ≠ "java/lang/invoke/MethodHandle" ∧ y.cls ≠ "java/lang/invoke/VarHandle")
    (hM : MetFree l y (head1 [Cond.code y bytes maxL ret] rm) (fun a U => a = as' ∧ Z.Warmed39 U.vm ∧ U.heap = h) (fun _ _ _ _ _ => True) (fun _ U o U' => ∃ v L, o = .returned v ∧ Q v U'.heap L ∧ FrameEnd U o U' L rm.cells rm.slots))
    (hf : rm.frames + 1 ≤ R.frames) {W : Nat} (hl : W + (maxL + 11) + rm.locals ≤ R.locals) {pc : Nat} {ls : Array Slot} {a : Addr} {argsL rest : List Value} {C' : String} (E : Exa Z h a C') (hsize : ls.size = c.maxLocals) (hlen : ∀ sig, parseMethodDescriptor y.desc = some sig → argsL.length = sig.parameters.length)
    (has : (Value.ref a :: argsL).toArray = as') (hW : (rest.map fun v => v.category).sum ≤ W) (hd : decode c.code pc = .ok (.invokevirtual index, 3)) (eT : T.heap = h) (hcc : cells + rm.cells ≤ R.cells) (hss : slots + rm.slots ≤ R.slots) {P : Outcome → State → Prop}
    (k : ∀ T' L v, Stand p l e R s m args below meth c T' (locs ++ L) (cells + rm.cells) (slots + rm.slots) → Q v T'.heap L → Fin p e below (T'.setTop (mkF m (pc + 3) ls (v.toList ++ rest))) P) :
    Fin p e below (T.setTop (mkF m pc ls (argsL.reverse ++ .ref a :: rest))) P := by
  have hpr : s.PrivateAt y := Cond.privateMethod_at (mvP hZ w5 (args := #[]))
  have hsel : (Cond.selects y.cls y y).before args s = true := by
    obtain ⟨c2, r2, m2, q1, q2, q3, q4, kP, hkP, hkPi⟩ := Cond.selects_spec (mvT (args := args) hZ w7)
    exact selects_self_of_private (hcl ▸ findClass_of_methodNamed q3) hkP hkPi hpr (mvT hZ w2) hy
  obtain ⟨cq, q1, q2⟩ := E.cell
  obtain ⟨v, _, ⟨T', L', k', n'⟩, -, X', ⟨L, hQ, e1, e2, e3⟩, st⟩ := X.privateBack hx (y := y) hown (mvT hZ w1) (mvT hZ w2) hsel hpr (mvT hZ w4) hy (backOf (W := W) hM hZ w4 w3 hf hl) (g := mkF m pc ls (argsL.reverse ++ .ref a :: rest)) rfl hsize (Steps.refl _) (a := a) (by rw [eT]; exact q1) q2 (argsL := argsL) (rest := rest) hlen rfl
    (by show 2 * 0 + _ ≤ _; omega) hd (fun _ _ => ⟨has, eT, hcc, hss⟩)
  dsimp only [Pt.U, Pt.locs, Pt.cells, Pt.slots] at X' e1 e2 e3 st hQ
  subst e1 e2 e3
  exact go (fun t kt => st.trans kt) (k T' L v X' hQ)
end A
section B
variable {args : Array Value} {first s : State} {o : Option Outcome} {idx : List Nat} {a b : Term}
theorem eqR {y : Addr} (h : (Cond.eq a b).value args first o s idx = some true) (hb : b.eval args first o idx s = some (.ref y)) : a.eval args first o idx s = some (.ref y) := by
  obtain ⟨x', y', h1, h2, k1, k2⟩ := cmp_v (Or.inl h)
  cases hb.symm.trans h2
  have hx : x'.isRef = true := k2.2
  rw [h1, gotT (eq_R h1 hb hx rfl) h]
theorem eqI {y : Int32} (h : (Cond.eq a b).value args first o s idx = some true) (hb : b.eval args first o idx s = some (.int y)) : a.eval args first o idx s = some (.int y) := by
  obtain ⟨x', y', h1, h2, k1, k2⟩ := cmp_v (Or.inl h)
  cases hb.symm.trans h2
  obtain ⟨z, rfl⟩ := k2
  rw [h1, gotT (Cond.eq_ints h1 hb) h]
theorem len_at {y : Int32} (h : (Term.length a).eval args first o idx s = some (.int y)) : ∃ (x : Addr) (cell : Cell), a.eval args first o idx s = some (.ref x) ∧ s.arrayAt? x = some cell ∧ cell.slots.size < 2 ^ 31 ∧ cell.slots.size.toInt32 = y := by
  obtain ⟨b, cell, h1, h2, h3, h4⟩ := Jvm.Lib.length_spec h
  exact ⟨b, cell, h1, h2, h3, (Value.int.inj h4).symm⟩
end B
end Own
namespace Jvm.Pilot.@@N@@
open Jvm Jvm.ClassFile Sem Op Lib Jvm.Free Jvm.Stand Jvm.LawKit Jvm.RoadKit Bundle Jvm.Pilot.@@N@@.Jvm.D
def F_co (a b : Int64) : Int32 := if 0 < lcmpW a b then 1 else 0
def F_max (a b : Int64) : Int64 := if lcmpW a b < 0 then b else a
theorem own_co1 {a b : Int64} (h : b < a) : F_co a b = 1 := by rw [F_co, if_pos ((lw_gt _ _).mpr h)]
theorem own_co0 {a b : Int64} (h : ¬ b < a) : F_co a b = 0 := by rw [F_co, if_neg (fun q => h ((lw_gt _ _).mp q))]
theorem own_mx1 {a b : Int64} (h : a < b) : F_max a b = b := by rw [F_max, if_pos ((lw_lt _ _).mpr h)]
theorem own_mx0 {a b : Int64} (h : ¬ a < b) : F_max a b = a := by rw [F_max, if_neg (fun q => h ((lw_lt _ _).mp q))]
theorem own_tri (a b : Int64) : (b < a ∧ ¬ a < b ∧ a ≠ b) ∨ (a = b ∧ ¬ a < b ∧ ¬ b < a) ∨ (a < b ∧ ¬ b < a ∧ a ≠ b) := by
  simp only [Int64.lt_iff_toInt_lt, ne_eq, ← Int64.toInt_inj]
  omega
theorem own_trans {a b c : Int64} (h1 : b < a) (h2 : c < b) (h3 : ¬ c < a) : False := by
  simp only [Int64.lt_iff_toInt_lt] at *
  omega
theorem d1_0 : decode prog_12_method_7_code 0 = .ok (.lload_n 0, 1) := by decide +kernel
theorem d1_1 : decode prog_12_method_7_code 1 = .ok (.lload_n 2, 1) := by decide +kernel
theorem d1_2 : decode prog_12_method_7_code 2 = .ok (.lcmp, 1) := by decide +kernel
theorem d1_3 : decode prog_12_method_7_code 3 = .ok (.ifCond .le 7, 3) := by decide +kernel
theorem d1_6 : decode prog_12_method_7_code 6 = .ok (.iconst 1, 1) := by decide +kernel
theorem d1_7 : decode prog_12_method_7_code 7 = .ok (.goto 4, 3) := by decide +kernel
theorem d1_10 : decode prog_12_method_7_code 10 = .ok (.iconst 0, 1) := by decide +kernel
theorem d1_11 : decode prog_12_method_7_code 11 = .ok (.ireturn, 1) := by decide +kernel
theorem pn_1 : plainName "org/laneweave/lanes/Copies" = true := by first | (simp [plainName, overriddenIn]; done) | decide +kernel
theorem ef_1 (m : MethodId) (q1 : Int64) (q2 : Int64) : entryFrame m #[(.long q1), (.long q2)] 4 = mkF m 0 #[.val (.long q1), .second, .val (.long q2), .second] [] := by first | (simp [entryFrame, mkF, argsToLocals, Value.category]; done) | rfl
def Q1 (Z : State) (q1 : Int64) (q2 : Int64)  (h0 : Heap) (n0 : Nat) : Option Value → Heap → List Loc → Prop := fun v h L => v = some (.int (F_co q1 q2)) ∧ Fr n0 L ∧ h = h0
set_option maxRecDepth 65536 in
set_option maxHeartbeats 40000000 in
theorem rm1 (l : Launch) (Z : State) (a0 : Array Value) (hw : ∀ d ∈ tables_1, d.before a0 Z = true) (ws : List Jvm.Cond) (q1 : Int64) (q2 : Int64)  (h0 : Heap) (n0 : Nat) (Z0 : n0 ≤ h0.size)  :
    MetFree l (⟨"org/laneweave/lanes/Copies", "countsOver", "(JJ)Z"⟩ : MethodName) (head1 (Jvm.Cond.code (⟨"org/laneweave/lanes/Copies", "countsOver", "(JJ)Z"⟩ : MethodName) prog_12_method_7_code 4 (some .boolean) :: ws) ({ frames := 0, cells := 0, slots := 0, locals := 0 } : Room)) (fun a U => a = #[(.long q1), (.long q2)] ∧ Z.Warmed39 U.vm ∧ U.heap = h0) (fun _ _ _ _ _ => True) (fun _ U o U' => ∃ v L, o = .returned v ∧ (Q1 Z q1 q2 h0 n0) v U'.heap L ∧ FrameEnd U o U' L ({ frames := 0, cells := 0, slots := 0, locals := 0 } : Room).cells ({ frames := 0, cells := 0, slots := 0, locals := 0 } : Room).slots) := by
  refine MetFree.of_bodySF (plainFor_of_name pn_1) hisR ?_
  intro p e s m args below meth c s₁ Bd hml0 hP hK
  obtain ⟨rfl, hZ, hh⟩ := hP
  have hx := Bd.exec
  have hby := Bd.bytes
  have hml : c.maxLocals = 4 := hml0
  have hown : s.vm.findClass "org/laneweave/lanes/Copies" = some m.cls := findClass_of_methodNamed Bd.named
  have hnm := (name_of_methodNamed Bd.named Bd.method).1
  have X0 : Stand p l e ({ frames := 0, cells := 0, slots := 0, locals := 0 } : Room) s m #[(.long q1), (.long q2)] below meth c s₁ [] 0 0 := Stand.of_body Bd
  have e0 : s₁.heap = h0 := by rw [← hh, Bd.state]; rfl
  have N0 := Fr.nil n0
  show Own.Fin p e below _ (Own.Post s (Q1 Z q1 q2 h0 n0) ({ frames := 0, cells := 0, slots := 0, locals := 0 } : Room).cells ({ frames := 0, cells := 0, slots := 0, locals := 0 } : Room).slots)
  refine Own.start (ef_1 m q1 q2) ?_
  show Own.Fin p e below (s₁.setTop (mkF m 0 #[.val (.long q1), .second, .val (.long q2), .second] [])) _
  refine Own.go (fun t k => XS.lloadN X0.here hx rfl (hb hby d1_0) rfl k) ?_
  show Own.Fin p e below (s₁.setTop (mkF m 1 #[.val (.long q1), .second, .val (.long q2), .second] [(.long q1)])) _
  refine Own.go (fun t k => XS.lloadN X0.here hx rfl (hb hby d1_1) rfl k) ?_
  show Own.Fin p e below (s₁.setTop (mkF m 2 #[.val (.long q1), .second, .val (.long q2), .second] [(.long q2), (.long q1)])) _
  refine Own.go (fun t k => XS.lcmp X0.here hx rfl (hb hby d1_2) rfl k) ?_
  show Own.Fin p e below (s₁.setTop (mkF m 3 #[.val (.long q1), .second, .val (.long q2), .second] [(.int (lcmpW q1 q2))])) _
  by_cases hc3_0 : (0 : Int32) < (lcmpW q1 q2)
  · skip
    refine Own.go (fun t k => XS.ifNo X0.here hx rfl (hb hby d1_3) rfl ((if0 _ _).trans (tlt hc3_0).2.2.2) k) ?_
    show Own.Fin p e below (s₁.setTop (mkF m 6 #[.val (.long q1), .second, .val (.long q2), .second] [])) _
    refine Own.go (fun t k => XS.iconst X0.here hx rfl (hb hby d1_6) k) ?_
    show Own.Fin p e below (s₁.setTop (mkF m 7 #[.val (.long q1), .second, .val (.long q2), .second] [(.int (1 : Int32))])) _
    refine Own.go (fun t k => XS.goto X0.here hx rfl (pc0 := 7) (pc' := 11) rfl (hb hby d1_7) (by decide) (by decide) k) ?_
    show Own.Fin p e below (s₁.setTop (mkF m 11 #[.val (.long q1), .second, .val (.long q2), .second] [(.int (1 : Int32))])) _
    refine Own.retN X0 hx Bd.notSynchronized (t := .boolean) Bd.returns (by simp) (hb hby d1_11) (by decide) (by decide) ?_
    exact ⟨by rw [show F_co q1 q2 = (1 : Int32) by simp only [F_co, hc3_0, if_true, if_false]]; rfl, N0, e0⟩
  · skip
    refine Own.go (fun t k => XS.ifYes X0.here hx rfl (pc0 := 3) (pc' := 10) rfl (hb hby d1_3) rfl ((if0 _ _).trans (flt hc3_0).2.2.2) (by decide) (by decide) k) ?_
    show Own.Fin p e below (s₁.setTop (mkF m 10 #[.val (.long q1), .second, .val (.long q2), .second] [])) _
    refine Own.go (fun t k => XS.iconst X0.here hx rfl (hb hby d1_10) k) ?_
    show Own.Fin p e below (s₁.setTop (mkF m 11 #[.val (.long q1), .second, .val (.long q2), .second] [(.int (0 : Int32))])) _
    refine Own.retN X0 hx Bd.notSynchronized (t := .boolean) Bd.returns (by simp) (hb hby d1_11) (by decide) (by decide) ?_
    exact ⟨by rw [show F_co q1 q2 = (0 : Int32) by simp only [F_co, hc3_0, if_true, if_false]]; rfl, N0, e0⟩
theorem d2_0 : decode jdk_29_method_66_code 0 = .ok (.lload_n 0, 1) := by decide +kernel
theorem d2_1 : decode jdk_29_method_66_code 1 = .ok (.lload_n 2, 1) := by decide +kernel
theorem d2_2 : decode jdk_29_method_66_code 2 = .ok (.lcmp, 1) := by decide +kernel
theorem d2_3 : decode jdk_29_method_66_code 3 = .ok (.ifCond .lt 7, 3) := by decide +kernel
theorem d2_6 : decode jdk_29_method_66_code 6 = .ok (.lload_n 0, 1) := by decide +kernel
theorem d2_7 : decode jdk_29_method_66_code 7 = .ok (.goto 4, 3) := by decide +kernel
theorem d2_10 : decode jdk_29_method_66_code 10 = .ok (.lload_n 2, 1) := by decide +kernel
theorem d2_11 : decode jdk_29_method_66_code 11 = .ok (.lreturn, 1) := by decide +kernel
theorem ef_2 (m : MethodId) (q1 : Int64) (q2 : Int64) : entryFrame m #[(.long q1), (.long q2)] 4 = mkF m 0 #[.val (.long q1), .second, .val (.long q2), .second] [] := by first | (simp [entryFrame, mkF, argsToLocals, Value.category]; done) | rfl
def Q2 (Z : State) (q1 : Int64) (q2 : Int64)  (h0 : Heap) (n0 : Nat) : Option Value → Heap → List Loc → Prop := fun v h L => v = some (.long (F_max q1 q2)) ∧ Fr n0 L ∧ h = h0
set_option maxRecDepth 65536 in
set_option maxHeartbeats 40000000 in
theorem rm2 (l : Launch) (Z : State) (a0 : Array Value) (hw : ∀ d ∈ tables_1, d.before a0 Z = true) (ws : List Jvm.Cond) (q1 : Int64) (q2 : Int64)  (h0 : Heap) (n0 : Nat) (Z0 : n0 ≤ h0.size)  :
    MetFree l (⟨"java/lang/Math", "max", "(JJ)J"⟩ : MethodName) (head1 (Jvm.Cond.code (⟨"java/lang/Math", "max", "(JJ)J"⟩ : MethodName) jdk_29_method_66_code 4 (some .long) :: ws) ({ frames := 0, cells := 0, slots := 0, locals := 0 } : Room)) (fun a U => a = #[(.long q1), (.long q2)] ∧ Z.Warmed39 U.vm ∧ U.heap = h0) (fun _ _ _ _ _ => True) (fun _ U o U' => ∃ v L, o = .returned v ∧ (Q2 Z q1 q2 h0 n0) v U'.heap L ∧ FrameEnd U o U' L ({ frames := 0, cells := 0, slots := 0, locals := 0 } : Room).cells ({ frames := 0, cells := 0, slots := 0, locals := 0 } : Room).slots) := by
  refine MetFree.of_bodySF (Jvm.Free.JP.mathPlain rfl (by decide +kernel)) hisR ?_
  intro p e s m args below meth c s₁ Bd hml0 hP hK
  obtain ⟨rfl, hZ, hh⟩ := hP
  have hx := Bd.exec
  have hby := Bd.bytes
  have hml : c.maxLocals = 4 := hml0
  have hown : s.vm.findClass "java/lang/Math" = some m.cls := findClass_of_methodNamed Bd.named
  have hnm := (name_of_methodNamed Bd.named Bd.method).1
  have X0 : Stand p l e ({ frames := 0, cells := 0, slots := 0, locals := 0 } : Room) s m #[(.long q1), (.long q2)] below meth c s₁ [] 0 0 := Stand.of_body Bd
  have e0 : s₁.heap = h0 := by rw [← hh, Bd.state]; rfl
  have N0 := Fr.nil n0
  show Own.Fin p e below _ (Own.Post s (Q2 Z q1 q2 h0 n0) ({ frames := 0, cells := 0, slots := 0, locals := 0 } : Room).cells ({ frames := 0, cells := 0, slots := 0, locals := 0 } : Room).slots)
  refine Own.start (ef_2 m q1 q2) ?_
  show Own.Fin p e below (s₁.setTop (mkF m 0 #[.val (.long q1), .second, .val (.long q2), .second] [])) _
  refine Own.go (fun t k => XS.lloadN X0.here hx rfl (hb hby d2_0) rfl k) ?_
  show Own.Fin p e below (s₁.setTop (mkF m 1 #[.val (.long q1), .second, .val (.long q2), .second] [(.long q1)])) _
  refine Own.go (fun t k => XS.lloadN X0.here hx rfl (hb hby d2_1) rfl k) ?_
  show Own.Fin p e below (s₁.setTop (mkF m 2 #[.val (.long q1), .second, .val (.long q2), .second] [(.long q2), (.long q1)])) _
  refine Own.go (fun t k => XS.lcmp X0.here hx rfl (hb hby d2_2) rfl k) ?_
  show Own.Fin p e below (s₁.setTop (mkF m 3 #[.val (.long q1), .second, .val (.long q2), .second] [(.int (lcmpW q1 q2))])) _
  by_cases hc3_0 : (lcmpW q1 q2) < (0 : Int32)
  · skip
    refine Own.go (fun t k => XS.ifYes X0.here hx rfl (pc0 := 3) (pc' := 10) rfl (hb hby d2_3) rfl ((if0 _ _).trans (tlt hc3_0).1) (by decide) (by decide) k) ?_
    show Own.Fin p e below (s₁.setTop (mkF m 10 #[.val (.long q1), .second, .val (.long q2), .second] [])) _
    refine Own.go (fun t k => XS.lloadN X0.here hx rfl (hb hby d2_10) rfl k) ?_
    show Own.Fin p e below (s₁.setTop (mkF m 11 #[.val (.long q1), .second, .val (.long q2), .second] [(.long q2)])) _
    refine Own.retJ X0 hx Bd.notSynchronized Bd.returns (hb hby d2_11) (by decide) (by decide) ?_
    exact ⟨by rw [show F_max q1 q2 = q2 by simp only [F_max, hc3_0, if_true, if_false]], N0, e0⟩
  · skip
    refine Own.go (fun t k => XS.ifNo X0.here hx rfl (hb hby d2_3) rfl ((if0 _ _).trans (flt hc3_0).1) k) ?_
    show Own.Fin p e below (s₁.setTop (mkF m 6 #[.val (.long q1), .second, .val (.long q2), .second] [])) _
    refine Own.go (fun t k => XS.lloadN X0.here hx rfl (hb hby d2_6) rfl k) ?_
    show Own.Fin p e below (s₁.setTop (mkF m 7 #[.val (.long q1), .second, .val (.long q2), .second] [(.long q1)])) _
    refine Own.go (fun t k => XS.goto X0.here hx rfl (pc0 := 7) (pc' := 11) rfl (hb hby d2_7) (by decide) (by decide) k) ?_
    show Own.Fin p e below (s₁.setTop (mkF m 11 #[.val (.long q1), .second, .val (.long q2), .second] [(.long q1)])) _
    refine Own.retJ X0 hx Bd.notSynchronized Bd.returns (hb hby d2_11) (by decide) (by decide) ?_
    exact ⟨by rw [show F_max q1 q2 = q1 by simp only [F_max, hc3_0, if_true, if_false]], N0, e0⟩
theorem pd_1 : parseMethodDescriptor "(JJ)J" = some ⟨[.long, .long], some .long⟩ := by decide +kernel
theorem pd_0 : parseMethodDescriptor "(JJ)Z" = some ⟨[.long, .long], some .boolean⟩ := by decide +kernel
theorem pn_0 : plainName "org/laneweave/lanes/CopiesCountsOverPinLaw" = true := by first | (simp [plainName, overriddenIn]; done) | decide +kernel
theorem ef_0 (m : MethodId) (q1 : Int64) (q2 : Int64) (q3 : Int64) (p4 : Int32) : entryFrame m #[(.long q1), (.long q2), (.long q3), (.int p4)] maxLocals = mkF m 0 #[.val (.long q1), .second, .val (.long q2), .second, .val (.long q3), .second, .val (.int p4), .unset, .unset, .unset, .unset, .unset, .unset, .unset, .unset, .unset, .unset, .unset] [] := by first | (simp [entryFrame, mkF, argsToLocals, Value.category, maxLocals]; done) | rfl
def Q0 (Z : State) (q1 : Int64) (q2 : Int64) (q3 : Int64) (p4 : Int32)  (h0 : Heap) (n0 : Nat) : Option Value → Heap → List Loc → Prop := fun v h L => v = some (.int 1) ∧ Fr n0 L
set_option maxRecDepth 65536 in
set_option maxHeartbeats 40000000 in
theorem rm0 (l : Launch) (Z : State) (a0 : Array Value) (hw : ∀ d ∈ tables_1, d.before a0 Z = true) (ws : List Jvm.Cond) (q1 : Int64) (q2 : Int64) (q3 : Int64) (p4 : Int32)  (h0 : Heap) (n0 : Nat) (Z0 : n0 ≤ h0.size)  :
    MetFree l x (head1 (Jvm.Cond.code x code maxLocals ret :: ws) room_1) (fun a U => a = #[(.long q1), (.long q2), (.long q3), (.int p4)] ∧ Z.Warmed39 U.vm ∧ U.heap = h0) (fun _ _ _ _ _ => True) (fun _ U o U' => ∃ v L, o = .returned v ∧ (Q0 Z q1 q2 q3 p4 h0 n0) v U'.heap L ∧ FrameEnd U o U' L room_1.cells room_1.slots) := by
  refine MetFree.of_bodySF (plainFor_of_name pn_0) hisR ?_
  intro p e s m args below meth c s₁ Bd hml0 hP hK
  obtain ⟨rfl, hZ, hh⟩ := hP
  have hx := Bd.exec
  have hby := Bd.bytes
  have hml : c.maxLocals = 18 := hml0
  have hown : s.vm.findClass "org/laneweave/lanes/CopiesCountsOverPinLaw" = some m.cls := findClass_of_methodNamed Bd.named
  have hnm := (name_of_methodNamed Bd.named Bd.method).1
  have X0 : Stand p l e room_1 s m #[(.long q1), (.long q2), (.long q3), (.int p4)] below meth c s₁ [] 0 0 := Stand.of_body Bd
  have e0 : s₁.heap = h0 := by rw [← hh, Bd.state]; rfl
  have N0 := Fr.nil n0
  show Own.Fin p e below _ (Own.Post s (Q0 Z q1 q2 q3 p4 h0 n0) room_1.cells room_1.slots)
  refine Own.start (ef_0 m q1 q2 q3 p4) ?_
  have tail : ∀ (bb cc : Int64), Own.Fin p e below (s₁.setTop (mkF m 30 #[.val (.long q1), .second, .val (.long q2), .second, .val (.long q3), .second, .val (.int p4), .val (.long bb), .second, .val (.long cc), .second, .unset, .unset, .unset, .unset, .unset, .unset, .unset] [])) (Own.Post s (Q0 Z q1 q2 q3 p4 h0 n0) room_1.cells room_1.slots) := by
    intro bb cc
    rcases own_tri q1 bb with hab | hab | hab
    · by_cases hbc : cc < bb
      · by_cases hac : cc < q1
        · skip
          show Own.Fin p e below (s₁.setTop (mkF m 30 #[.val (.long q1), .second, .val (.long q2), .second, .val (.long q3), .second, .val (.int p4), .val (.long bb), .second, .val (.long cc), .second, .unset, .unset, .unset, .unset, .unset, .unset, .unset] [])) _
          refine Own.go (fun t k => XS.lloadN X0.here hx rfl (hb hby at_30) rfl k) ?_
          show Own.Fin p e below (s₁.setTop (mkF m 31 #[.val (.long q1), .second, .val (.long q2), .second, .val (.long q3), .second, .val (.int p4), .val (.long bb), .second, .val (.long cc), .second, .unset, .unset, .unset, .unset, .unset, .unset, .unset] [(.long q1)])) _
          refine Own.go (fun t k => XS.lload X0.here hx rfl (hb hby at_31) rfl k) ?_
          show Own.Fin p e below (s₁.setTop (mkF m 33 #[.val (.long q1), .second, .val (.long q2), .second, .val (.long q3), .second, .val (.int p4), .val (.long bb), .second, .val (.long cc), .second, .unset, .unset, .unset, .unset, .unset, .unset, .unset] [(.long bb), (.long q1)])) _
          refine Own.cS X0 hx hZ hown (hw _ (List.mem_of_getElem? (i := 0) rfl)) (hw _ (List.mem_of_getElem? (i := 1) rfl)) (hw _ (List.mem_of_getElem? (i := 2) rfl)) (hw _ (List.mem_of_getElem? (i := 3) rfl)) (by decide) (rm1 l Z a0 hw [] q1 bb h0 n0 Z0 ) (by decide) (W := 0) (by decide) (argsL := [(.long q1), (.long bb)]) (rest := []) (by rw [hml]; rfl) (lenOf pd_0 rfl) rfl (Nat.le_of_eq rfl) (hb hby at_33) e0 (by decide) (by decide) ?_
          intro T1 L1 v1 X1 hQ1
          obtain ⟨rfl, N1q, e1⟩ := hQ1
          have N1 := Fr.app N0 N1q
          rw [own_co1 hab.1]
          show Own.Fin p e below (T1.setTop (mkF m 36 #[.val (.long q1), .second, .val (.long q2), .second, .val (.long q3), .second, .val (.int p4), .val (.long bb), .second, .val (.long cc), .second, .unset, .unset, .unset, .unset, .unset, .unset, .unset] [(.int (1 : Int32))])) _
          refine Own.go (fun t k => XS.istore X1.here hx rfl (hb hby at_36) rfl (l' := #[.val (.long q1), .second, .val (.long q2), .second, .val (.long q3), .second, .val (.int p4), .val (.long bb), .second, .val (.long cc), .second, .val (.int (1 : Int32)), .unset, .unset, .unset, .unset, .unset, .unset]) rfl k) ?_
          show Own.Fin p e below (T1.setTop (mkF m 38 #[.val (.long q1), .second, .val (.long q2), .second, .val (.long q3), .second, .val (.int p4), .val (.long bb), .second, .val (.long cc), .second, .val (.int (1 : Int32)), .unset, .unset, .unset, .unset, .unset, .unset] [])) _
          refine Own.go (fun t k => XS.lload X1.here hx rfl (hb hby at_38) rfl k) ?_
          show Own.Fin p e below (T1.setTop (mkF m 40 #[.val (.long q1), .second, .val (.long q2), .second, .val (.long q3), .second, .val (.int p4), .val (.long bb), .second, .val (.long cc), .second, .val (.int (1 : Int32)), .unset, .unset, .unset, .unset, .unset, .unset] [(.long bb)])) _
          refine Own.go (fun t k => XS.lloadN X1.here hx rfl (hb hby at_40) rfl k) ?_
          show Own.Fin p e below (T1.setTop (mkF m 41 #[.val (.long q1), .second, .val (.long q2), .second, .val (.long q3), .second, .val (.int p4), .val (.long bb), .second, .val (.long cc), .second, .val (.int (1 : Int32)), .unset, .unset, .unset, .unset, .unset, .unset] [(.long q1), (.long bb)])) _
          refine Own.cS X1 hx hZ hown (hw _ (List.mem_of_getElem? (i := 0) rfl)) (hw _ (List.mem_of_getElem? (i := 1) rfl)) (hw _ (List.mem_of_getElem? (i := 2) rfl)) (hw _ (List.mem_of_getElem? (i := 3) rfl)) (by decide) (rm1 l Z a0 hw [] bb q1 h0 n0 Z0 ) (by decide) (W := 0) (by decide) (argsL := [(.long bb), (.long q1)]) (rest := []) (by rw [hml]; rfl) (lenOf pd_0 rfl) rfl (Nat.le_of_eq rfl) (hb hby at_41) e1 (by decide) (by decide) ?_
          intro T2 L2 v2 X2 hQ2
          obtain ⟨rfl, N2q, e2⟩ := hQ2
          have N2 := Fr.app N1 N2q
          rw [own_co0 hab.2.1]
          show Own.Fin p e below (T2.setTop (mkF m 44 #[.val (.long q1), .second, .val (.long q2), .second, .val (.long q3), .second, .val (.int p4), .val (.long bb), .second, .val (.long cc), .second, .val (.int (1 : Int32)), .unset, .unset, .unset, .unset, .unset, .unset] [(.int (0 : Int32))])) _
          refine Own.go (fun t k => XS.istore X2.here hx rfl (hb hby at_44) rfl (l' := #[.val (.long q1), .second, .val (.long q2), .second, .val (.long q3), .second, .val (.int p4), .val (.long bb), .second, .val (.long cc), .second, .val (.int (1 : Int32)), .val (.int (0 : Int32)), .unset, .unset, .unset, .unset, .unset]) rfl k) ?_
          show Own.Fin p e below (T2.setTop (mkF m 46 #[.val (.long q1), .second, .val (.long q2), .second, .val (.long q3), .second, .val (.int p4), .val (.long bb), .second, .val (.long cc), .second, .val (.int (1 : Int32)), .val (.int (0 : Int32)), .unset, .unset, .unset, .unset, .unset] [])) _
          refine Own.go (fun t k => XS.lload X2.here hx rfl (hb hby at_46) rfl k) ?_
          show Own.Fin p e below (T2.setTop (mkF m 48 #[.val (.long q1), .second, .val (.long q2), .second, .val (.long q3), .second, .val (.int p4), .val (.long bb), .second, .val (.long cc), .second, .val (.int (1 : Int32)), .val (.int (0 : Int32)), .unset, .unset, .unset, .unset, .unset] [(.long bb)])) _
          refine Own.go (fun t k => XS.lload X2.here hx rfl (hb hby at_48) rfl k) ?_
          show Own.Fin p e below (T2.setTop (mkF m 50 #[.val (.long q1), .second, .val (.long q2), .second, .val (.long q3), .second, .val (.int p4), .val (.long bb), .second, .val (.long cc), .second, .val (.int (1 : Int32)), .val (.int (0 : Int32)), .unset, .unset, .unset, .unset, .unset] [(.long cc), (.long bb)])) _
          refine Own.cS X2 hx hZ hown (hw _ (List.mem_of_getElem? (i := 0) rfl)) (hw _ (List.mem_of_getElem? (i := 1) rfl)) (hw _ (List.mem_of_getElem? (i := 2) rfl)) (hw _ (List.mem_of_getElem? (i := 3) rfl)) (by decide) (rm1 l Z a0 hw [] bb cc h0 n0 Z0 ) (by decide) (W := 0) (by decide) (argsL := [(.long bb), (.long cc)]) (rest := []) (by rw [hml]; rfl) (lenOf pd_0 rfl) rfl (Nat.le_of_eq rfl) (hb hby at_50) e2 (by decide) (by decide) ?_
          intro T3 L3 v3 X3 hQ3
          obtain ⟨rfl, N3q, e3⟩ := hQ3
          have N3 := Fr.app N2 N3q
          rw [own_co1 hbc]
          show Own.Fin p e below (T3.setTop (mkF m 53 #[.val (.long q1), .second, .val (.long q2), .second, .val (.long q3), .second, .val (.int p4), .val (.long bb), .second, .val (.long cc), .second, .val (.int (1 : Int32)), .val (.int (0 : Int32)), .unset, .unset, .unset, .unset, .unset] [(.int (1 : Int32))])) _
          refine Own.go (fun t k => XS.istore X3.here hx rfl (hb hby at_53) rfl (l' := #[.val (.long q1), .second, .val (.long q2), .second, .val (.long q3), .second, .val (.int p4), .val (.long bb), .second, .val (.long cc), .second, .val (.int (1 : Int32)), .val (.int (0 : Int32)), .val (.int (1 : Int32)), .unset, .unset, .unset, .unset]) rfl k) ?_
          show Own.Fin p e below (T3.setTop (mkF m 55 #[.val (.long q1), .second, .val (.long q2), .second, .val (.long q3), .second, .val (.int p4), .val (.long bb), .second, .val (.long cc), .second, .val (.int (1 : Int32)), .val (.int (0 : Int32)), .val (.int (1 : Int32)), .unset, .unset, .unset, .unset] [])) _
          refine Own.go (fun t k => XS.lloadN X3.here hx rfl (hb hby at_55) rfl k) ?_
          show Own.Fin p e below (T3.setTop (mkF m 56 #[.val (.long q1), .second, .val (.long q2), .second, .val (.long q3), .second, .val (.int p4), .val (.long bb), .second, .val (.long cc), .second, .val (.int (1 : Int32)), .val (.int (0 : Int32)), .val (.int (1 : Int32)), .unset, .unset, .unset, .unset] [(.long q1)])) _
          refine Own.go (fun t k => XS.lload X3.here hx rfl (hb hby at_56) rfl k) ?_
          show Own.Fin p e below (T3.setTop (mkF m 58 #[.val (.long q1), .second, .val (.long q2), .second, .val (.long q3), .second, .val (.int p4), .val (.long bb), .second, .val (.long cc), .second, .val (.int (1 : Int32)), .val (.int (0 : Int32)), .val (.int (1 : Int32)), .unset, .unset, .unset, .unset] [(.long cc), (.long q1)])) _
          refine Own.cS X3 hx hZ hown (hw _ (List.mem_of_getElem? (i := 0) rfl)) (hw _ (List.mem_of_getElem? (i := 1) rfl)) (hw _ (List.mem_of_getElem? (i := 2) rfl)) (hw _ (List.mem_of_getElem? (i := 3) rfl)) (by decide) (rm1 l Z a0 hw [] q1 cc h0 n0 Z0 ) (by decide) (W := 0) (by decide) (argsL := [(.long q1), (.long cc)]) (rest := []) (by rw [hml]; rfl) (lenOf pd_0 rfl) rfl (Nat.le_of_eq rfl) (hb hby at_58) e3 (by decide) (by decide) ?_
          intro T4 L4 v4 X4 hQ4
          obtain ⟨rfl, N4q, e4⟩ := hQ4
          have N4 := Fr.app N3 N4q
          rw [own_co1 hac]
          show Own.Fin p e below (T4.setTop (mkF m 61 #[.val (.long q1), .second, .val (.long q2), .second, .val (.long q3), .second, .val (.int p4), .val (.long bb), .second, .val (.long cc), .second, .val (.int (1 : Int32)), .val (.int (0 : Int32)), .val (.int (1 : Int32)), .unset, .unset, .unset, .unset] [(.int (1 : Int32))])) _
          refine Own.go (fun t k => XS.istore X4.here hx rfl (hb hby at_61) rfl (l' := #[.val (.long q1), .second, .val (.long q2), .second, .val (.long q3), .second, .val (.int p4), .val (.long bb), .second, .val (.long cc), .second, .val (.int (1 : Int32)), .val (.int (0 : Int32)), .val (.int (1 : Int32)), .val (.int (1 : Int32)), .unset, .unset, .unset]) rfl k) ?_
          show Own.Fin p e below (T4.setTop (mkF m 63 #[.val (.long q1), .second, .val (.long q2), .second, .val (.long q3), .second, .val (.int p4), .val (.long bb), .second, .val (.long cc), .second, .val (.int (1 : Int32)), .val (.int (0 : Int32)), .val (.int (1 : Int32)), .val (.int (1 : Int32)), .unset, .unset, .unset] [])) _
          refine Own.go (fun t k => XS.lloadN X4.here hx rfl (hb hby at_63) rfl k) ?_
          show Own.Fin p e below (T4.setTop (mkF m 64 #[.val (.long q1), .second, .val (.long q2), .second, .val (.long q3), .second, .val (.int p4), .val (.long bb), .second, .val (.long cc), .second, .val (.int (1 : Int32)), .val (.int (0 : Int32)), .val (.int (1 : Int32)), .val (.int (1 : Int32)), .unset, .unset, .unset] [(.long q1)])) _
          refine Own.go (fun t k => XS.lload X4.here hx rfl (hb hby at_64) rfl k) ?_
          show Own.Fin p e below (T4.setTop (mkF m 66 #[.val (.long q1), .second, .val (.long q2), .second, .val (.long q3), .second, .val (.int p4), .val (.long bb), .second, .val (.long cc), .second, .val (.int (1 : Int32)), .val (.int (0 : Int32)), .val (.int (1 : Int32)), .val (.int (1 : Int32)), .unset, .unset, .unset] [(.long bb), (.long q1)])) _
          refine Own.cS X4 hx hZ hown (hw _ (List.mem_of_getElem? (i := 4) rfl)) (hw _ (List.mem_of_getElem? (i := 5) rfl)) (hw _ (List.mem_of_getElem? (i := 6) rfl)) (hw _ (List.mem_of_getElem? (i := 7) rfl)) (by decide) (rm2 l Z a0 hw [] q1 bb h0 n0 Z0 ) (by decide) (W := 0) (by decide) (argsL := [(.long q1), (.long bb)]) (rest := []) (by rw [hml]; rfl) (lenOf pd_1 rfl) rfl (Nat.le_of_eq rfl) (hb hby at_66) e4 (by decide) (by decide) ?_
          intro T5 L5 v5 X5 hQ5
          obtain ⟨rfl, N5q, e5⟩ := hQ5
          have N5 := Fr.app N4 N5q
          rw [own_mx0 hab.2.1]
          show Own.Fin p e below (T5.setTop (mkF m 69 #[.val (.long q1), .second, .val (.long q2), .second, .val (.long q3), .second, .val (.int p4), .val (.long bb), .second, .val (.long cc), .second, .val (.int (1 : Int32)), .val (.int (0 : Int32)), .val (.int (1 : Int32)), .val (.int (1 : Int32)), .unset, .unset, .unset] [(.long q1)])) _
          refine Own.go (fun t k => XS.lloadN X5.here hx rfl (hb hby at_69) rfl k) ?_
          show Own.Fin p e below (T5.setTop (mkF m 70 #[.val (.long q1), .second, .val (.long q2), .second, .val (.long q3), .second, .val (.int p4), .val (.long bb), .second, .val (.long cc), .second, .val (.int (1 : Int32)), .val (.int (0 : Int32)), .val (.int (1 : Int32)), .val (.int (1 : Int32)), .unset, .unset, .unset] [(.long q1), (.long q1)])) _
          refine Own.go (fun t k => XS.lcmp X5.here hx rfl (hb hby at_70) rfl k) ?_
          show Own.Fin p e below (T5.setTop (mkF m 71 #[.val (.long q1), .second, .val (.long q2), .second, .val (.long q3), .second, .val (.int p4), .val (.long bb), .second, .val (.long cc), .second, .val (.int (1 : Int32)), .val (.int (0 : Int32)), .val (.int (1 : Int32)), .val (.int (1 : Int32)), .unset, .unset, .unset] [(.int (lcmpW q1 q1))])) _
          have hc71_5 : (lcmpW q1 q1) = (0 : Int32) := (lw_eq _ _).mpr rfl
          refine Own.go (fun t k => XS.ifNo X5.here hx rfl (hb hby at_71) rfl ((if0 _ _).trans (teq hc71_5).2) k) ?_
          show Own.Fin p e below (T5.setTop (mkF m 74 #[.val (.long q1), .second, .val (.long q2), .second, .val (.long q3), .second, .val (.int p4), .val (.long bb), .second, .val (.long cc), .second, .val (.int (1 : Int32)), .val (.int (0 : Int32)), .val (.int (1 : Int32)), .val (.int (1 : Int32)), .unset, .unset, .unset] [])) _
          refine Own.go (fun t k => XS.lloadN X5.here hx rfl (hb hby at_74) rfl k) ?_
          show Own.Fin p e below (T5.setTop (mkF m 75 #[.val (.long q1), .second, .val (.long q2), .second, .val (.long q3), .second, .val (.int p4), .val (.long bb), .second, .val (.long cc), .second, .val (.int (1 : Int32)), .val (.int (0 : Int32)), .val (.int (1 : Int32)), .val (.int (1 : Int32)), .unset, .unset, .unset] [(.long q1)])) _
          refine Own.go (fun t k => XS.lload X5.here hx rfl (hb hby at_75) rfl k) ?_
          show Own.Fin p e below (T5.setTop (mkF m 77 #[.val (.long q1), .second, .val (.long q2), .second, .val (.long q3), .second, .val (.int p4), .val (.long bb), .second, .val (.long cc), .second, .val (.int (1 : Int32)), .val (.int (0 : Int32)), .val (.int (1 : Int32)), .val (.int (1 : Int32)), .unset, .unset, .unset] [(.long bb), (.long q1)])) _
          refine Own.go (fun t k => XS.lcmp X5.here hx rfl (hb hby at_77) rfl k) ?_
          show Own.Fin p e below (T5.setTop (mkF m 78 #[.val (.long q1), .second, .val (.long q2), .second, .val (.long q3), .second, .val (.int p4), .val (.long bb), .second, .val (.long cc), .second, .val (.int (1 : Int32)), .val (.int (0 : Int32)), .val (.int (1 : Int32)), .val (.int (1 : Int32)), .unset, .unset, .unset] [(.int (lcmpW q1 bb))])) _
          have hc78_6 : ¬ ((lcmpW q1 bb) = (0 : Int32)) := fun q => hab.2.2 ((lw_eq _ _).mp q)
          refine Own.go (fun t k => XS.ifNo X5.here hx rfl (hb hby at_78) rfl ((if0 _ _).trans (feq hc78_6).1) k) ?_
          show Own.Fin p e below (T5.setTop (mkF m 81 #[.val (.long q1), .second, .val (.long q2), .second, .val (.long q3), .second, .val (.int p4), .val (.long bb), .second, .val (.long cc), .second, .val (.int (1 : Int32)), .val (.int (0 : Int32)), .val (.int (1 : Int32)), .val (.int (1 : Int32)), .unset, .unset, .unset] [])) _
          refine Own.go (fun t k => XS.iconst X5.here hx rfl (hb hby at_81) k) ?_
          show Own.Fin p e below (T5.setTop (mkF m 82 #[.val (.long q1), .second, .val (.long q2), .second, .val (.long q3), .second, .val (.int p4), .val (.long bb), .second, .val (.long cc), .second, .val (.int (1 : Int32)), .val (.int (0 : Int32)), .val (.int (1 : Int32)), .val (.int (1 : Int32)), .unset, .unset, .unset] [(.int (1 : Int32))])) _
          refine Own.go (fun t k => XS.goto X5.here hx rfl (pc0 := 82) (pc' := 86) rfl (hb hby at_82) (by decide) (by decide) k) ?_
          show Own.Fin p e below (T5.setTop (mkF m 86 #[.val (.long q1), .second, .val (.long q2), .second, .val (.long q3), .second, .val (.int p4), .val (.long bb), .second, .val (.long cc), .second, .val (.int (1 : Int32)), .val (.int (0 : Int32)), .val (.int (1 : Int32)), .val (.int (1 : Int32)), .unset, .unset, .unset] [(.int (1 : Int32))])) _
          refine Own.go (fun t k => XS.istore X5.here hx rfl (hb hby at_86) rfl (l' := #[.val (.long q1), .second, .val (.long q2), .second, .val (.long q3), .second, .val (.int p4), .val (.long bb), .second, .val (.long cc), .second, .val (.int (1 : Int32)), .val (.int (0 : Int32)), .val (.int (1 : Int32)), .val (.int (1 : Int32)), .val (.int (1 : Int32)), .unset, .unset]) rfl k) ?_
          show Own.Fin p e below (T5.setTop (mkF m 88 #[.val (.long q1), .second, .val (.long q2), .second, .val (.long q3), .second, .val (.int p4), .val (.long bb), .second, .val (.long cc), .second, .val (.int (1 : Int32)), .val (.int (0 : Int32)), .val (.int (1 : Int32)), .val (.int (1 : Int32)), .val (.int (1 : Int32)), .unset, .unset] [])) _
          refine Own.go (fun t k => XS.iload X5.here hx rfl (hb hby at_88) rfl k) ?_
          show Own.Fin p e below (T5.setTop (mkF m 90 #[.val (.long q1), .second, .val (.long q2), .second, .val (.long q3), .second, .val (.int p4), .val (.long bb), .second, .val (.long cc), .second, .val (.int (1 : Int32)), .val (.int (0 : Int32)), .val (.int (1 : Int32)), .val (.int (1 : Int32)), .val (.int (1 : Int32)), .unset, .unset] [(.int (1 : Int32))])) _
          have hc90_7 : ¬ ((1 : Int32) = (0 : Int32)) := by decide
          refine Own.go (fun t k => XS.ifNo X5.here hx rfl (hb hby at_90) rfl ((if0 _ _).trans (feq hc90_7).1) k) ?_
          show Own.Fin p e below (T5.setTop (mkF m 93 #[.val (.long q1), .second, .val (.long q2), .second, .val (.long q3), .second, .val (.int p4), .val (.long bb), .second, .val (.long cc), .second, .val (.int (1 : Int32)), .val (.int (0 : Int32)), .val (.int (1 : Int32)), .val (.int (1 : Int32)), .val (.int (1 : Int32)), .unset, .unset] [])) _
          refine Own.go (fun t k => XS.iconst X5.here hx rfl (hb hby at_93) k) ?_
          show Own.Fin p e below (T5.setTop (mkF m 94 #[.val (.long q1), .second, .val (.long q2), .second, .val (.long q3), .second, .val (.int p4), .val (.long bb), .second, .val (.long cc), .second, .val (.int (1 : Int32)), .val (.int (0 : Int32)), .val (.int (1 : Int32)), .val (.int (1 : Int32)), .val (.int (1 : Int32)), .unset, .unset] [(.int (1 : Int32))])) _
          refine Own.go (fun t k => XS.goto X5.here hx rfl (pc0 := 94) (pc' := 98) rfl (hb hby at_94) (by decide) (by decide) k) ?_
          show Own.Fin p e below (T5.setTop (mkF m 98 #[.val (.long q1), .second, .val (.long q2), .second, .val (.long q3), .second, .val (.int p4), .val (.long bb), .second, .val (.long cc), .second, .val (.int (1 : Int32)), .val (.int (0 : Int32)), .val (.int (1 : Int32)), .val (.int (1 : Int32)), .val (.int (1 : Int32)), .unset, .unset] [(.int (1 : Int32))])) _
          refine Own.go (fun t k => XS.iload X5.here hx rfl (hb hby at_98) rfl k) ?_
          show Own.Fin p e below (T5.setTop (mkF m 100 #[.val (.long q1), .second, .val (.long q2), .second, .val (.long q3), .second, .val (.int p4), .val (.long bb), .second, .val (.long cc), .second, .val (.int (1 : Int32)), .val (.int (0 : Int32)), .val (.int (1 : Int32)), .val (.int (1 : Int32)), .val (.int (1 : Int32)), .unset, .unset] [(.int (0 : Int32)), (.int (1 : Int32))])) _
          have hc100_8 : (0 : Int32) = (0 : Int32) := by decide
          refine Own.go (fun t k => XS.ifYes X5.here hx rfl (pc0 := 100) (pc' := 107) rfl (hb hby at_100) rfl ((if0 _ _).trans (teq hc100_8).1) (by decide) (by decide) k) ?_
          show Own.Fin p e below (T5.setTop (mkF m 107 #[.val (.long q1), .second, .val (.long q2), .second, .val (.long q3), .second, .val (.int p4), .val (.long bb), .second, .val (.long cc), .second, .val (.int (1 : Int32)), .val (.int (0 : Int32)), .val (.int (1 : Int32)), .val (.int (1 : Int32)), .val (.int (1 : Int32)), .unset, .unset] [(.int (1 : Int32))])) _
          refine Own.go (fun t k => XS.iconst X5.here hx rfl (hb hby at_107) k) ?_
          show Own.Fin p e below (T5.setTop (mkF m 108 #[.val (.long q1), .second, .val (.long q2), .second, .val (.long q3), .second, .val (.int p4), .val (.long bb), .second, .val (.long cc), .second, .val (.int (1 : Int32)), .val (.int (0 : Int32)), .val (.int (1 : Int32)), .val (.int (1 : Int32)), .val (.int (1 : Int32)), .unset, .unset] [(.int (0 : Int32)), (.int (1 : Int32))])) _
          refine Own.go (fun t k => XS.iadd X5.here hx rfl (hb hby at_108) rfl k) ?_
          show Own.Fin p e below (T5.setTop (mkF m 109 #[.val (.long q1), .second, .val (.long q2), .second, .val (.long q3), .second, .val (.int p4), .val (.long bb), .second, .val (.long cc), .second, .val (.int (1 : Int32)), .val (.int (0 : Int32)), .val (.int (1 : Int32)), .val (.int (1 : Int32)), .val (.int (1 : Int32)), .unset, .unset] [(.int ((1 : Int32) + (0 : Int32)))])) _
          refine Own.go (fun t k => XS.lloadN X5.here hx rfl (hb hby at_109) rfl k) ?_
          show Own.Fin p e below (T5.setTop (mkF m 110 #[.val (.long q1), .second, .val (.long q2), .second, .val (.long q3), .second, .val (.int p4), .val (.long bb), .second, .val (.long cc), .second, .val (.int (1 : Int32)), .val (.int (0 : Int32)), .val (.int (1 : Int32)), .val (.int (1 : Int32)), .val (.int (1 : Int32)), .unset, .unset] [(.long q1), (.int ((1 : Int32) + (0 : Int32)))])) _
          refine Own.go (fun t k => XS.lload X5.here hx rfl (hb hby at_110) rfl k) ?_
          show Own.Fin p e below (T5.setTop (mkF m 112 #[.val (.long q1), .second, .val (.long q2), .second, .val (.long q3), .second, .val (.int p4), .val (.long bb), .second, .val (.long cc), .second, .val (.int (1 : Int32)), .val (.int (0 : Int32)), .val (.int (1 : Int32)), .val (.int (1 : Int32)), .val (.int (1 : Int32)), .unset, .unset] [(.long bb), (.long q1), (.int ((1 : Int32) + (0 : Int32)))])) _
          refine Own.go (fun t k => XS.lcmp X5.here hx rfl (hb hby at_112) rfl k) ?_
          show Own.Fin p e below (T5.setTop (mkF m 113 #[.val (.long q1), .second, .val (.long q2), .second, .val (.long q3), .second, .val (.int p4), .val (.long bb), .second, .val (.long cc), .second, .val (.int (1 : Int32)), .val (.int (0 : Int32)), .val (.int (1 : Int32)), .val (.int (1 : Int32)), .val (.int (1 : Int32)), .unset, .unset] [(.int (lcmpW q1 bb)), (.int ((1 : Int32) + (0 : Int32)))])) _
          have hc113_9 : ¬ ((lcmpW q1 bb) = (0 : Int32)) := fun q => hab.2.2 ((lw_eq _ _).mp q)
          refine Own.go (fun t k => XS.ifYes X5.here hx rfl (pc0 := 113) (pc' := 120) rfl (hb hby at_113) rfl ((if0 _ _).trans (feq hc113_9).2) (by decide) (by decide) k) ?_
          show Own.Fin p e below (T5.setTop (mkF m 120 #[.val (.long q1), .second, .val (.long q2), .second, .val (.long q3), .second, .val (.int p4), .val (.long bb), .second, .val (.long cc), .second, .val (.int (1 : Int32)), .val (.int (0 : Int32)), .val (.int (1 : Int32)), .val (.int (1 : Int32)), .val (.int (1 : Int32)), .unset, .unset] [(.int ((1 : Int32) + (0 : Int32)))])) _
          refine Own.go (fun t k => XS.iconst X5.here hx rfl (hb hby at_120) k) ?_
          show Own.Fin p e below (T5.setTop (mkF m 121 #[.val (.long q1), .second, .val (.long q2), .second, .val (.long q3), .second, .val (.int p4), .val (.long bb), .second, .val (.long cc), .second, .val (.int (1 : Int32)), .val (.int (0 : Int32)), .val (.int (1 : Int32)), .val (.int (1 : Int32)), .val (.int (1 : Int32)), .unset, .unset] [(.int (0 : Int32)), (.int ((1 : Int32) + (0 : Int32)))])) _
          refine Own.go (fun t k => XS.iadd X5.here hx rfl (hb hby at_121) rfl k) ?_
          show Own.Fin p e below (T5.setTop (mkF m 122 #[.val (.long q1), .second, .val (.long q2), .second, .val (.long q3), .second, .val (.int p4), .val (.long bb), .second, .val (.long cc), .second, .val (.int (1 : Int32)), .val (.int (0 : Int32)), .val (.int (1 : Int32)), .val (.int (1 : Int32)), .val (.int (1 : Int32)), .unset, .unset] [(.int (((1 : Int32) + (0 : Int32)) + (0 : Int32)))])) _
          refine Own.go (fun t k => XS.istore X5.here hx rfl (hb hby at_122) rfl (l' := #[.val (.long q1), .second, .val (.long q2), .second, .val (.long q3), .second, .val (.int p4), .val (.long bb), .second, .val (.long cc), .second, .val (.int (1 : Int32)), .val (.int (0 : Int32)), .val (.int (1 : Int32)), .val (.int (1 : Int32)), .val (.int (1 : Int32)), .val (.int (((1 : Int32) + (0 : Int32)) + (0 : Int32))), .unset]) rfl k) ?_
          show Own.Fin p e below (T5.setTop (mkF m 124 #[.val (.long q1), .second, .val (.long q2), .second, .val (.long q3), .second, .val (.int p4), .val (.long bb), .second, .val (.long cc), .second, .val (.int (1 : Int32)), .val (.int (0 : Int32)), .val (.int (1 : Int32)), .val (.int (1 : Int32)), .val (.int (1 : Int32)), .val (.int (((1 : Int32) + (0 : Int32)) + (0 : Int32))), .unset] [])) _
          refine Own.go (fun t k => XS.iload X5.here hx rfl (hb hby at_124) rfl k) ?_
          show Own.Fin p e below (T5.setTop (mkF m 126 #[.val (.long q1), .second, .val (.long q2), .second, .val (.long q3), .second, .val (.int p4), .val (.long bb), .second, .val (.long cc), .second, .val (.int (1 : Int32)), .val (.int (0 : Int32)), .val (.int (1 : Int32)), .val (.int (1 : Int32)), .val (.int (1 : Int32)), .val (.int (((1 : Int32) + (0 : Int32)) + (0 : Int32))), .unset] [(.int (1 : Int32))])) _
          have hc126_10 : ¬ ((1 : Int32) = (0 : Int32)) := by decide
          refine Own.go (fun t k => XS.ifNo X5.here hx rfl (hb hby at_126) rfl ((if0 _ _).trans (feq hc126_10).1) k) ?_
          show Own.Fin p e below (T5.setTop (mkF m 129 #[.val (.long q1), .second, .val (.long q2), .second, .val (.long q3), .second, .val (.int p4), .val (.long bb), .second, .val (.long cc), .second, .val (.int (1 : Int32)), .val (.int (0 : Int32)), .val (.int (1 : Int32)), .val (.int (1 : Int32)), .val (.int (1 : Int32)), .val (.int (((1 : Int32) + (0 : Int32)) + (0 : Int32))), .unset] [])) _
          refine Own.go (fun t k => XS.iload X5.here hx rfl (hb hby at_129) rfl k) ?_
          show Own.Fin p e below (T5.setTop (mkF m 131 #[.val (.long q1), .second, .val (.long q2), .second, .val (.long q3), .second, .val (.int p4), .val (.long bb), .second, .val (.long cc), .second, .val (.int (1 : Int32)), .val (.int (0 : Int32)), .val (.int (1 : Int32)), .val (.int (1 : Int32)), .val (.int (1 : Int32)), .val (.int (((1 : Int32) + (0 : Int32)) + (0 : Int32))), .unset] [(.int (1 : Int32))])) _
          have hc131_11 : ¬ ((1 : Int32) = (0 : Int32)) := by decide
          refine Own.go (fun t k => XS.ifNo X5.here hx rfl (hb hby at_131) rfl ((if0 _ _).trans (feq hc131_11).1) k) ?_
          show Own.Fin p e below (T5.setTop (mkF m 134 #[.val (.long q1), .second, .val (.long q2), .second, .val (.long q3), .second, .val (.int p4), .val (.long bb), .second, .val (.long cc), .second, .val (.int (1 : Int32)), .val (.int (0 : Int32)), .val (.int (1 : Int32)), .val (.int (1 : Int32)), .val (.int (1 : Int32)), .val (.int (((1 : Int32) + (0 : Int32)) + (0 : Int32))), .unset] [])) _
          refine Own.go (fun t k => XS.iload X5.here hx rfl (hb hby at_134) rfl k) ?_
          show Own.Fin p e below (T5.setTop (mkF m 136 #[.val (.long q1), .second, .val (.long q2), .second, .val (.long q3), .second, .val (.int p4), .val (.long bb), .second, .val (.long cc), .second, .val (.int (1 : Int32)), .val (.int (0 : Int32)), .val (.int (1 : Int32)), .val (.int (1 : Int32)), .val (.int (1 : Int32)), .val (.int (((1 : Int32) + (0 : Int32)) + (0 : Int32))), .unset] [(.int (1 : Int32))])) _
          have hc136_12 : ¬ ((1 : Int32) = (0 : Int32)) := by decide
          refine Own.go (fun t k => XS.ifNo X5.here hx rfl (hb hby at_136) rfl ((if0 _ _).trans (feq hc136_12).1) k) ?_
          show Own.Fin p e below (T5.setTop (mkF m 139 #[.val (.long q1), .second, .val (.long q2), .second, .val (.long q3), .second, .val (.int p4), .val (.long bb), .second, .val (.long cc), .second, .val (.int (1 : Int32)), .val (.int (0 : Int32)), .val (.int (1 : Int32)), .val (.int (1 : Int32)), .val (.int (1 : Int32)), .val (.int (((1 : Int32) + (0 : Int32)) + (0 : Int32))), .unset] [])) _
          refine Own.go (fun t k => XS.iconst X5.here hx rfl (hb hby at_139) k) ?_
          show Own.Fin p e below (T5.setTop (mkF m 140 #[.val (.long q1), .second, .val (.long q2), .second, .val (.long q3), .second, .val (.int p4), .val (.long bb), .second, .val (.long cc), .second, .val (.int (1 : Int32)), .val (.int (0 : Int32)), .val (.int (1 : Int32)), .val (.int (1 : Int32)), .val (.int (1 : Int32)), .val (.int (((1 : Int32) + (0 : Int32)) + (0 : Int32))), .unset] [(.int (1 : Int32))])) _
          refine Own.go (fun t k => XS.goto X5.here hx rfl (pc0 := 140) (pc' := 144) rfl (hb hby at_140) (by decide) (by decide) k) ?_
          show Own.Fin p e below (T5.setTop (mkF m 144 #[.val (.long q1), .second, .val (.long q2), .second, .val (.long q3), .second, .val (.int p4), .val (.long bb), .second, .val (.long cc), .second, .val (.int (1 : Int32)), .val (.int (0 : Int32)), .val (.int (1 : Int32)), .val (.int (1 : Int32)), .val (.int (1 : Int32)), .val (.int (((1 : Int32) + (0 : Int32)) + (0 : Int32))), .unset] [(.int (1 : Int32))])) _
          refine Own.go (fun t k => XS.istore X5.here hx rfl (hb hby at_144) rfl (l' := #[.val (.long q1), .second, .val (.long q2), .second, .val (.long q3), .second, .val (.int p4), .val (.long bb), .second, .val (.long cc), .second, .val (.int (1 : Int32)), .val (.int (0 : Int32)), .val (.int (1 : Int32)), .val (.int (1 : Int32)), .val (.int (1 : Int32)), .val (.int (((1 : Int32) + (0 : Int32)) + (0 : Int32))), .val (.int (1 : Int32))]) rfl k) ?_
          show Own.Fin p e below (T5.setTop (mkF m 146 #[.val (.long q1), .second, .val (.long q2), .second, .val (.long q3), .second, .val (.int p4), .val (.long bb), .second, .val (.long cc), .second, .val (.int (1 : Int32)), .val (.int (0 : Int32)), .val (.int (1 : Int32)), .val (.int (1 : Int32)), .val (.int (1 : Int32)), .val (.int (((1 : Int32) + (0 : Int32)) + (0 : Int32))), .val (.int (1 : Int32))] [])) _
          refine Own.go (fun t k => XS.iload X5.here hx rfl (hb hby at_146) rfl k) ?_
          show Own.Fin p e below (T5.setTop (mkF m 148 #[.val (.long q1), .second, .val (.long q2), .second, .val (.long q3), .second, .val (.int p4), .val (.long bb), .second, .val (.long cc), .second, .val (.int (1 : Int32)), .val (.int (0 : Int32)), .val (.int (1 : Int32)), .val (.int (1 : Int32)), .val (.int (1 : Int32)), .val (.int (((1 : Int32) + (0 : Int32)) + (0 : Int32))), .val (.int (1 : Int32))] [(.int (1 : Int32))])) _
          refine Own.go (fun t k => XS.iload X5.here hx rfl (hb hby at_148) rfl k) ?_
          show Own.Fin p e below (T5.setTop (mkF m 150 #[.val (.long q1), .second, .val (.long q2), .second, .val (.long q3), .second, .val (.int p4), .val (.long bb), .second, .val (.long cc), .second, .val (.int (1 : Int32)), .val (.int (0 : Int32)), .val (.int (1 : Int32)), .val (.int (1 : Int32)), .val (.int (1 : Int32)), .val (.int (((1 : Int32) + (0 : Int32)) + (0 : Int32))), .val (.int (1 : Int32))] [(.int (1 : Int32)), (.int (1 : Int32))])) _
          have hc150_13 : (1 : Int32) = (1 : Int32) := by decide
          refine Own.go (fun t k => XS.icmpNo X5.here hx rfl (hb hby at_150) rfl (teq hc150_13).2 k) ?_
          show Own.Fin p e below (T5.setTop (mkF m 153 #[.val (.long q1), .second, .val (.long q2), .second, .val (.long q3), .second, .val (.int p4), .val (.long bb), .second, .val (.long cc), .second, .val (.int (1 : Int32)), .val (.int (0 : Int32)), .val (.int (1 : Int32)), .val (.int (1 : Int32)), .val (.int (1 : Int32)), .val (.int (((1 : Int32) + (0 : Int32)) + (0 : Int32))), .val (.int (1 : Int32))] [])) _
          refine Own.go (fun t k => XS.iload X5.here hx rfl (hb hby at_153) rfl k) ?_
          show Own.Fin p e below (T5.setTop (mkF m 155 #[.val (.long q1), .second, .val (.long q2), .second, .val (.long q3), .second, .val (.int p4), .val (.long bb), .second, .val (.long cc), .second, .val (.int (1 : Int32)), .val (.int (0 : Int32)), .val (.int (1 : Int32)), .val (.int (1 : Int32)), .val (.int (1 : Int32)), .val (.int (((1 : Int32) + (0 : Int32)) + (0 : Int32))), .val (.int (1 : Int32))] [(.int (((1 : Int32) + (0 : Int32)) + (0 : Int32)))])) _
          refine Own.go (fun t k => XS.iconst X5.here hx rfl (hb hby at_155) k) ?_
          show Own.Fin p e below (T5.setTop (mkF m 156 #[.val (.long q1), .second, .val (.long q2), .second, .val (.long q3), .second, .val (.int p4), .val (.long bb), .second, .val (.long cc), .second, .val (.int (1 : Int32)), .val (.int (0 : Int32)), .val (.int (1 : Int32)), .val (.int (1 : Int32)), .val (.int (1 : Int32)), .val (.int (((1 : Int32) + (0 : Int32)) + (0 : Int32))), .val (.int (1 : Int32))] [(.int (1 : Int32)), (.int (((1 : Int32) + (0 : Int32)) + (0 : Int32)))])) _
          have hc156_14 : (((1 : Int32) + (0 : Int32)) + (0 : Int32)) = (1 : Int32) := by decide
          refine Own.go (fun t k => XS.icmpNo X5.here hx rfl (hb hby at_156) rfl (teq hc156_14).2 k) ?_
          show Own.Fin p e below (T5.setTop (mkF m 159 #[.val (.long q1), .second, .val (.long q2), .second, .val (.long q3), .second, .val (.int p4), .val (.long bb), .second, .val (.long cc), .second, .val (.int (1 : Int32)), .val (.int (0 : Int32)), .val (.int (1 : Int32)), .val (.int (1 : Int32)), .val (.int (1 : Int32)), .val (.int (((1 : Int32) + (0 : Int32)) + (0 : Int32))), .val (.int (1 : Int32))] [])) _
          refine Own.go (fun t k => XS.iload X5.here hx rfl (hb hby at_159) rfl k) ?_
          show Own.Fin p e below (T5.setTop (mkF m 161 #[.val (.long q1), .second, .val (.long q2), .second, .val (.long q3), .second, .val (.int p4), .val (.long bb), .second, .val (.long cc), .second, .val (.int (1 : Int32)), .val (.int (0 : Int32)), .val (.int (1 : Int32)), .val (.int (1 : Int32)), .val (.int (1 : Int32)), .val (.int (((1 : Int32) + (0 : Int32)) + (0 : Int32))), .val (.int (1 : Int32))] [(.int (1 : Int32))])) _
          have hc161_15 : ¬ ((1 : Int32) = (0 : Int32)) := by decide
          refine Own.go (fun t k => XS.ifNo X5.here hx rfl (hb hby at_161) rfl ((if0 _ _).trans (feq hc161_15).1) k) ?_
          show Own.Fin p e below (T5.setTop (mkF m 164 #[.val (.long q1), .second, .val (.long q2), .second, .val (.long q3), .second, .val (.int p4), .val (.long bb), .second, .val (.long cc), .second, .val (.int (1 : Int32)), .val (.int (0 : Int32)), .val (.int (1 : Int32)), .val (.int (1 : Int32)), .val (.int (1 : Int32)), .val (.int (((1 : Int32) + (0 : Int32)) + (0 : Int32))), .val (.int (1 : Int32))] [])) _
          refine Own.go (fun t k => XS.iconst X5.here hx rfl (hb hby at_164) k) ?_
          show Own.Fin p e below (T5.setTop (mkF m 165 #[.val (.long q1), .second, .val (.long q2), .second, .val (.long q3), .second, .val (.int p4), .val (.long bb), .second, .val (.long cc), .second, .val (.int (1 : Int32)), .val (.int (0 : Int32)), .val (.int (1 : Int32)), .val (.int (1 : Int32)), .val (.int (1 : Int32)), .val (.int (((1 : Int32) + (0 : Int32)) + (0 : Int32))), .val (.int (1 : Int32))] [(.int (1 : Int32))])) _
          refine Own.go (fun t k => XS.goto X5.here hx rfl (pc0 := 165) (pc' := 169) rfl (hb hby at_165) (by decide) (by decide) k) ?_
          show Own.Fin p e below (T5.setTop (mkF m 169 #[.val (.long q1), .second, .val (.long q2), .second, .val (.long q3), .second, .val (.int p4), .val (.long bb), .second, .val (.long cc), .second, .val (.int (1 : Int32)), .val (.int (0 : Int32)), .val (.int (1 : Int32)), .val (.int (1 : Int32)), .val (.int (1 : Int32)), .val (.int (((1 : Int32) + (0 : Int32)) + (0 : Int32))), .val (.int (1 : Int32))] [(.int (1 : Int32))])) _
          refine Own.retN X5 hx Bd.notSynchronized (t := .boolean) Bd.returns (by simp) (hb hby at_169) (by decide) (by decide) ?_
          exact ⟨rfl, N5⟩
        · skip
          exact (own_trans hab.1 hbc hac).elim
      · by_cases hac : cc < q1
        · skip
          show Own.Fin p e below (s₁.setTop (mkF m 30 #[.val (.long q1), .second, .val (.long q2), .second, .val (.long q3), .second, .val (.int p4), .val (.long bb), .second, .val (.long cc), .second, .unset, .unset, .unset, .unset, .unset, .unset, .unset] [])) _
          refine Own.go (fun t k => XS.lloadN X0.here hx rfl (hb hby at_30) rfl k) ?_
          show Own.Fin p e below (s₁.setTop (mkF m 31 #[.val (.long q1), .second, .val (.long q2), .second, .val (.long q3), .second, .val (.int p4), .val (.long bb), .second, .val (.long cc), .second, .unset, .unset, .unset, .unset, .unset, .unset, .unset] [(.long q1)])) _
          refine Own.go (fun t k => XS.lload X0.here hx rfl (hb hby at_31) rfl k) ?_
          show Own.Fin p e below (s₁.setTop (mkF m 33 #[.val (.long q1), .second, .val (.long q2), .second, .val (.long q3), .second, .val (.int p4), .val (.long bb), .second, .val (.long cc), .second, .unset, .unset, .unset, .unset, .unset, .unset, .unset] [(.long bb), (.long q1)])) _
          refine Own.cS X0 hx hZ hown (hw _ (List.mem_of_getElem? (i := 0) rfl)) (hw _ (List.mem_of_getElem? (i := 1) rfl)) (hw _ (List.mem_of_getElem? (i := 2) rfl)) (hw _ (List.mem_of_getElem? (i := 3) rfl)) (by decide) (rm1 l Z a0 hw [] q1 bb h0 n0 Z0 ) (by decide) (W := 0) (by decide) (argsL := [(.long q1), (.long bb)]) (rest := []) (by rw [hml]; rfl) (lenOf pd_0 rfl) rfl (Nat.le_of_eq rfl) (hb hby at_33) e0 (by decide) (by decide) ?_
          intro T17 L17 v17 X17 hQ17
          obtain ⟨rfl, N17q, e17⟩ := hQ17
          have N17 := Fr.app N0 N17q
          rw [own_co1 hab.1]
          show Own.Fin p e below (T17.setTop (mkF m 36 #[.val (.long q1), .second, .val (.long q2), .second, .val (.long q3), .second, .val (.int p4), .val (.long bb), .second, .val (.long cc), .second, .unset, .unset, .unset, .unset, .unset, .unset, .unset] [(.int (1 : Int32))])) _
          refine Own.go (fun t k => XS.istore X17.here hx rfl (hb hby at_36) rfl (l' := #[.val (.long q1), .second, .val (.long q2), .second, .val (.long q3), .second, .val (.int p4), .val (.long bb), .second, .val (.long cc), .second, .val (.int (1 : Int32)), .unset, .unset, .unset, .unset, .unset, .unset]) rfl k) ?_
          show Own.Fin p e below (T17.setTop (mkF m 38 #[.val (.long q1), .second, .val (.long q2), .second, .val (.long q3), .second, .val (.int p4), .val (.long bb), .second, .val (.long cc), .second, .val (.int (1 : Int32)), .unset, .unset, .unset, .unset, .unset, .unset] [])) _
          refine Own.go (fun t k => XS.lload X17.here hx rfl (hb hby at_38) rfl k) ?_
          show Own.Fin p e below (T17.setTop (mkF m 40 #[.val (.long q1), .second, .val (.long q2), .second, .val (.long q3), .second, .val (.int p4), .val (.long bb), .second, .val (.long cc), .second, .val (.int (1 : Int32)), .unset, .unset, .unset, .unset, .unset, .unset] [(.long bb)])) _
          refine Own.go (fun t k => XS.lloadN X17.here hx rfl (hb hby at_40) rfl k) ?_
          show Own.Fin p e below (T17.setTop (mkF m 41 #[.val (.long q1), .second, .val (.long q2), .second, .val (.long q3), .second, .val (.int p4), .val (.long bb), .second, .val (.long cc), .second, .val (.int (1 : Int32)), .unset, .unset, .unset, .unset, .unset, .unset] [(.long q1), (.long bb)])) _
          refine Own.cS X17 hx hZ hown (hw _ (List.mem_of_getElem? (i := 0) rfl)) (hw _ (List.mem_of_getElem? (i := 1) rfl)) (hw _ (List.mem_of_getElem? (i := 2) rfl)) (hw _ (List.mem_of_getElem? (i := 3) rfl)) (by decide) (rm1 l Z a0 hw [] bb q1 h0 n0 Z0 ) (by decide) (W := 0) (by decide) (argsL := [(.long bb), (.long q1)]) (rest := []) (by rw [hml]; rfl) (lenOf pd_0 rfl) rfl (Nat.le_of_eq rfl) (hb hby at_41) e17 (by decide) (by decide) ?_
          intro T18 L18 v18 X18 hQ18
          obtain ⟨rfl, N18q, e18⟩ := hQ18
          have N18 := Fr.app N17 N18q
          rw [own_co0 hab.2.1]
          show Own.Fin p e below (T18.setTop (mkF m 44 #[.val (.long q1), .second, .val (.long q2), .second, .val (.long q3), .second, .val (.int p4), .val (.long bb), .second, .val (.long cc), .second, .val (.int (1 : Int32)), .unset, .unset, .unset, .unset, .unset, .unset] [(.int (0 : Int32))])) _
          refine Own.go (fun t k => XS.istore X18.here hx rfl (hb hby at_44) rfl (l' := #[.val (.long q1), .second, .val (.long q2), .second, .val (.long q3), .second, .val (.int p4), .val (.long bb), .second, .val (.long cc), .second, .val (.int (1 : Int32)), .val (.int (0 : Int32)), .unset, .unset, .unset, .unset, .unset]) rfl k) ?_
          show Own.Fin p e below (T18.setTop (mkF m 46 #[.val (.long q1), .second, .val (.long q2), .second, .val (.long q3), .second, .val (.int p4), .val (.long bb), .second, .val (.long cc), .second, .val (.int (1 : Int32)), .val (.int (0 : Int32)), .unset, .unset, .unset, .unset, .unset] [])) _
          refine Own.go (fun t k => XS.lload X18.here hx rfl (hb hby at_46) rfl k) ?_
          show Own.Fin p e below (T18.setTop (mkF m 48 #[.val (.long q1), .second, .val (.long q2), .second, .val (.long q3), .second, .val (.int p4), .val (.long bb), .second, .val (.long cc), .second, .val (.int (1 : Int32)), .val (.int (0 : Int32)), .unset, .unset, .unset, .unset, .unset] [(.long bb)])) _
          refine Own.go (fun t k => XS.lload X18.here hx rfl (hb hby at_48) rfl k) ?_
          show Own.Fin p e below (T18.setTop (mkF m 50 #[.val (.long q1), .second, .val (.long q2), .second, .val (.long q3), .second, .val (.int p4), .val (.long bb), .second, .val (.long cc), .second, .val (.int (1 : Int32)), .val (.int (0 : Int32)), .unset, .unset, .unset, .unset, .unset] [(.long cc), (.long bb)])) _
          refine Own.cS X18 hx hZ hown (hw _ (List.mem_of_getElem? (i := 0) rfl)) (hw _ (List.mem_of_getElem? (i := 1) rfl)) (hw _ (List.mem_of_getElem? (i := 2) rfl)) (hw _ (List.mem_of_getElem? (i := 3) rfl)) (by decide) (rm1 l Z a0 hw [] bb cc h0 n0 Z0 ) (by decide) (W := 0) (by decide) (argsL := [(.long bb), (.long cc)]) (rest := []) (by rw [hml]; rfl) (lenOf pd_0 rfl) rfl (Nat.le_of_eq rfl) (hb hby at_50) e18 (by decide) (by decide) ?_
          intro T19 L19 v19 X19 hQ19
          obtain ⟨rfl, N19q, e19⟩ := hQ19
          have N19 := Fr.app N18 N19q
          rw [own_co0 hbc]
          show Own.Fin p e below (T19.setTop (mkF m 53 #[.val (.long q1), .second, .val (.long q2), .second, .val (.long q3), .second, .val (.int p4), .val (.long bb), .second, .val (.long cc), .second, .val (.int (1 : Int32)), .val (.int (0 : Int32)), .unset, .unset, .unset, .unset, .unset] [(.int (0 : Int32))])) _
          refine Own.go (fun t k => XS.istore X19.here hx rfl (hb hby at_53) rfl (l' := #[.val (.long q1), .second, .val (.long q2), .second, .val (.long q3), .second, .val (.int p4), .val (.long bb), .second, .val (.long cc), .second, .val (.int (1 : Int32)), .val (.int (0 : Int32)), .val (.int (0 : Int32)), .unset, .unset, .unset, .unset]) rfl k) ?_
          show Own.Fin p e below (T19.setTop (mkF m 55 #[.val (.long q1), .second, .val (.long q2), .second, .val (.long q3), .second, .val (.int p4), .val (.long bb), .second, .val (.long cc), .second, .val (.int (1 : Int32)), .val (.int (0 : Int32)), .val (.int (0 : Int32)), .unset, .unset, .unset, .unset] [])) _
          refine Own.go (fun t k => XS.lloadN X19.here hx rfl (hb hby at_55) rfl k) ?_
          show Own.Fin p e below (T19.setTop (mkF m 56 #[.val (.long q1), .second, .val (.long q2), .second, .val (.long q3), .second, .val (.int p4), .val (.long bb), .second, .val (.long cc), .second, .val (.int (1 : Int32)), .val (.int (0 : Int32)), .val (.int (0 : Int32)), .unset, .unset, .unset, .unset] [(.long q1)])) _
          refine Own.go (fun t k => XS.lload X19.here hx rfl (hb hby at_56) rfl k) ?_
          show Own.Fin p e below (T19.setTop (mkF m 58 #[.val (.long q1), .second, .val (.long q2), .second, .val (.long q3), .second, .val (.int p4), .val (.long bb), .second, .val (.long cc), .second, .val (.int (1 : Int32)), .val (.int (0 : Int32)), .val (.int (0 : Int32)), .unset, .unset, .unset, .unset] [(.long cc), (.long q1)])) _
          refine Own.cS X19 hx hZ hown (hw _ (List.mem_of_getElem? (i := 0) rfl)) (hw _ (List.mem_of_getElem? (i := 1) rfl)) (hw _ (List.mem_of_getElem? (i := 2) rfl)) (hw _ (List.mem_of_getElem? (i := 3) rfl)) (by decide) (rm1 l Z a0 hw [] q1 cc h0 n0 Z0 ) (by decide) (W := 0) (by decide) (argsL := [(.long q1), (.long cc)]) (rest := []) (by rw [hml]; rfl) (lenOf pd_0 rfl) rfl (Nat.le_of_eq rfl) (hb hby at_58) e19 (by decide) (by decide) ?_
          intro T20 L20 v20 X20 hQ20
          obtain ⟨rfl, N20q, e20⟩ := hQ20
          have N20 := Fr.app N19 N20q
          rw [own_co1 hac]
          show Own.Fin p e below (T20.setTop (mkF m 61 #[.val (.long q1), .second, .val (.long q2), .second, .val (.long q3), .second, .val (.int p4), .val (.long bb), .second, .val (.long cc), .second, .val (.int (1 : Int32)), .val (.int (0 : Int32)), .val (.int (0 : Int32)), .unset, .unset, .unset, .unset] [(.int (1 : Int32))])) _
          refine Own.go (fun t k => XS.istore X20.here hx rfl (hb hby at_61) rfl (l' := #[.val (.long q1), .second, .val (.long q2), .second, .val (.long q3), .second, .val (.int p4), .val (.long bb), .second, .val (.long cc), .second, .val (.int (1 : Int32)), .val (.int (0 : Int32)), .val (.int (0 : Int32)), .val (.int (1 : Int32)), .unset, .unset, .unset]) rfl k) ?_
          show Own.Fin p e below (T20.setTop (mkF m 63 #[.val (.long q1), .second, .val (.long q2), .second, .val (.long q3), .second, .val (.int p4), .val (.long bb), .second, .val (.long cc), .second, .val (.int (1 : Int32)), .val (.int (0 : Int32)), .val (.int (0 : Int32)), .val (.int (1 : Int32)), .unset, .unset, .unset] [])) _
          refine Own.go (fun t k => XS.lloadN X20.here hx rfl (hb hby at_63) rfl k) ?_
          show Own.Fin p e below (T20.setTop (mkF m 64 #[.val (.long q1), .second, .val (.long q2), .second, .val (.long q3), .second, .val (.int p4), .val (.long bb), .second, .val (.long cc), .second, .val (.int (1 : Int32)), .val (.int (0 : Int32)), .val (.int (0 : Int32)), .val (.int (1 : Int32)), .unset, .unset, .unset] [(.long q1)])) _
          refine Own.go (fun t k => XS.lload X20.here hx rfl (hb hby at_64) rfl k) ?_
          show Own.Fin p e below (T20.setTop (mkF m 66 #[.val (.long q1), .second, .val (.long q2), .second, .val (.long q3), .second, .val (.int p4), .val (.long bb), .second, .val (.long cc), .second, .val (.int (1 : Int32)), .val (.int (0 : Int32)), .val (.int (0 : Int32)), .val (.int (1 : Int32)), .unset, .unset, .unset] [(.long bb), (.long q1)])) _
          refine Own.cS X20 hx hZ hown (hw _ (List.mem_of_getElem? (i := 4) rfl)) (hw _ (List.mem_of_getElem? (i := 5) rfl)) (hw _ (List.mem_of_getElem? (i := 6) rfl)) (hw _ (List.mem_of_getElem? (i := 7) rfl)) (by decide) (rm2 l Z a0 hw [] q1 bb h0 n0 Z0 ) (by decide) (W := 0) (by decide) (argsL := [(.long q1), (.long bb)]) (rest := []) (by rw [hml]; rfl) (lenOf pd_1 rfl) rfl (Nat.le_of_eq rfl) (hb hby at_66) e20 (by decide) (by decide) ?_
          intro T21 L21 v21 X21 hQ21
          obtain ⟨rfl, N21q, e21⟩ := hQ21
          have N21 := Fr.app N20 N21q
          rw [own_mx0 hab.2.1]
          show Own.Fin p e below (T21.setTop (mkF m 69 #[.val (.long q1), .second, .val (.long q2), .second, .val (.long q3), .second, .val (.int p4), .val (.long bb), .second, .val (.long cc), .second, .val (.int (1 : Int32)), .val (.int (0 : Int32)), .val (.int (0 : Int32)), .val (.int (1 : Int32)), .unset, .unset, .unset] [(.long q1)])) _
          refine Own.go (fun t k => XS.lloadN X21.here hx rfl (hb hby at_69) rfl k) ?_
          show Own.Fin p e below (T21.setTop (mkF m 70 #[.val (.long q1), .second, .val (.long q2), .second, .val (.long q3), .second, .val (.int p4), .val (.long bb), .second, .val (.long cc), .second, .val (.int (1 : Int32)), .val (.int (0 : Int32)), .val (.int (0 : Int32)), .val (.int (1 : Int32)), .unset, .unset, .unset] [(.long q1), (.long q1)])) _
          refine Own.go (fun t k => XS.lcmp X21.here hx rfl (hb hby at_70) rfl k) ?_
          show Own.Fin p e below (T21.setTop (mkF m 71 #[.val (.long q1), .second, .val (.long q2), .second, .val (.long q3), .second, .val (.int p4), .val (.long bb), .second, .val (.long cc), .second, .val (.int (1 : Int32)), .val (.int (0 : Int32)), .val (.int (0 : Int32)), .val (.int (1 : Int32)), .unset, .unset, .unset] [(.int (lcmpW q1 q1))])) _
          have hc71_21 : (lcmpW q1 q1) = (0 : Int32) := (lw_eq _ _).mpr rfl
          refine Own.go (fun t k => XS.ifNo X21.here hx rfl (hb hby at_71) rfl ((if0 _ _).trans (teq hc71_21).2) k) ?_
          show Own.Fin p e below (T21.setTop (mkF m 74 #[.val (.long q1), .second, .val (.long q2), .second, .val (.long q3), .second, .val (.int p4), .val (.long bb), .second, .val (.long cc), .second, .val (.int (1 : Int32)), .val (.int (0 : Int32)), .val (.int (0 : Int32)), .val (.int (1 : Int32)), .unset, .unset, .unset] [])) _
          refine Own.go (fun t k => XS.lloadN X21.here hx rfl (hb hby at_74) rfl k) ?_
          show Own.Fin p e below (T21.setTop (mkF m 75 #[.val (.long q1), .second, .val (.long q2), .second, .val (.long q3), .second, .val (.int p4), .val (.long bb), .second, .val (.long cc), .second, .val (.int (1 : Int32)), .val (.int (0 : Int32)), .val (.int (0 : Int32)), .val (.int (1 : Int32)), .unset, .unset, .unset] [(.long q1)])) _
          refine Own.go (fun t k => XS.lload X21.here hx rfl (hb hby at_75) rfl k) ?_
          show Own.Fin p e below (T21.setTop (mkF m 77 #[.val (.long q1), .second, .val (.long q2), .second, .val (.long q3), .second, .val (.int p4), .val (.long bb), .second, .val (.long cc), .second, .val (.int (1 : Int32)), .val (.int (0 : Int32)), .val (.int (0 : Int32)), .val (.int (1 : Int32)), .unset, .unset, .unset] [(.long bb), (.long q1)])) _
          refine Own.go (fun t k => XS.lcmp X21.here hx rfl (hb hby at_77) rfl k) ?_
          show Own.Fin p e below (T21.setTop (mkF m 78 #[.val (.long q1), .second, .val (.long q2), .second, .val (.long q3), .second, .val (.int p4), .val (.long bb), .second, .val (.long cc), .second, .val (.int (1 : Int32)), .val (.int (0 : Int32)), .val (.int (0 : Int32)), .val (.int (1 : Int32)), .unset, .unset, .unset] [(.int (lcmpW q1 bb))])) _
          have hc78_22 : ¬ ((lcmpW q1 bb) = (0 : Int32)) := fun q => hab.2.2 ((lw_eq _ _).mp q)
          refine Own.go (fun t k => XS.ifNo X21.here hx rfl (hb hby at_78) rfl ((if0 _ _).trans (feq hc78_22).1) k) ?_
          show Own.Fin p e below (T21.setTop (mkF m 81 #[.val (.long q1), .second, .val (.long q2), .second, .val (.long q3), .second, .val (.int p4), .val (.long bb), .second, .val (.long cc), .second, .val (.int (1 : Int32)), .val (.int (0 : Int32)), .val (.int (0 : Int32)), .val (.int (1 : Int32)), .unset, .unset, .unset] [])) _
          refine Own.go (fun t k => XS.iconst X21.here hx rfl (hb hby at_81) k) ?_
          show Own.Fin p e below (T21.setTop (mkF m 82 #[.val (.long q1), .second, .val (.long q2), .second, .val (.long q3), .second, .val (.int p4), .val (.long bb), .second, .val (.long cc), .second, .val (.int (1 : Int32)), .val (.int (0 : Int32)), .val (.int (0 : Int32)), .val (.int (1 : Int32)), .unset, .unset, .unset] [(.int (1 : Int32))])) _
          refine Own.go (fun t k => XS.goto X21.here hx rfl (pc0 := 82) (pc' := 86) rfl (hb hby at_82) (by decide) (by decide) k) ?_
          show Own.Fin p e below (T21.setTop (mkF m 86 #[.val (.long q1), .second, .val (.long q2), .second, .val (.long q3), .second, .val (.int p4), .val (.long bb), .second, .val (.long cc), .second, .val (.int (1 : Int32)), .val (.int (0 : Int32)), .val (.int (0 : Int32)), .val (.int (1 : Int32)), .unset, .unset, .unset] [(.int (1 : Int32))])) _
          refine Own.go (fun t k => XS.istore X21.here hx rfl (hb hby at_86) rfl (l' := #[.val (.long q1), .second, .val (.long q2), .second, .val (.long q3), .second, .val (.int p4), .val (.long bb), .second, .val (.long cc), .second, .val (.int (1 : Int32)), .val (.int (0 : Int32)), .val (.int (0 : Int32)), .val (.int (1 : Int32)), .val (.int (1 : Int32)), .unset, .unset]) rfl k) ?_
          show Own.Fin p e below (T21.setTop (mkF m 88 #[.val (.long q1), .second, .val (.long q2), .second, .val (.long q3), .second, .val (.int p4), .val (.long bb), .second, .val (.long cc), .second, .val (.int (1 : Int32)), .val (.int (0 : Int32)), .val (.int (0 : Int32)), .val (.int (1 : Int32)), .val (.int (1 : Int32)), .unset, .unset] [])) _
          refine Own.go (fun t k => XS.iload X21.here hx rfl (hb hby at_88) rfl k) ?_
          show Own.Fin p e below (T21.setTop (mkF m 90 #[.val (.long q1), .second, .val (.long q2), .second, .val (.long q3), .second, .val (.int p4), .val (.long bb), .second, .val (.long cc), .second, .val (.int (1 : Int32)), .val (.int (0 : Int32)), .val (.int (0 : Int32)), .val (.int (1 : Int32)), .val (.int (1 : Int32)), .unset, .unset] [(.int (1 : Int32))])) _
          have hc90_23 : ¬ ((1 : Int32) = (0 : Int32)) := by decide
          refine Own.go (fun t k => XS.ifNo X21.here hx rfl (hb hby at_90) rfl ((if0 _ _).trans (feq hc90_23).1) k) ?_
          show Own.Fin p e below (T21.setTop (mkF m 93 #[.val (.long q1), .second, .val (.long q2), .second, .val (.long q3), .second, .val (.int p4), .val (.long bb), .second, .val (.long cc), .second, .val (.int (1 : Int32)), .val (.int (0 : Int32)), .val (.int (0 : Int32)), .val (.int (1 : Int32)), .val (.int (1 : Int32)), .unset, .unset] [])) _
          refine Own.go (fun t k => XS.iconst X21.here hx rfl (hb hby at_93) k) ?_
          show Own.Fin p e below (T21.setTop (mkF m 94 #[.val (.long q1), .second, .val (.long q2), .second, .val (.long q3), .second, .val (.int p4), .val (.long bb), .second, .val (.long cc), .second, .val (.int (1 : Int32)), .val (.int (0 : Int32)), .val (.int (0 : Int32)), .val (.int (1 : Int32)), .val (.int (1 : Int32)), .unset, .unset] [(.int (1 : Int32))])) _
          refine Own.go (fun t k => XS.goto X21.here hx rfl (pc0 := 94) (pc' := 98) rfl (hb hby at_94) (by decide) (by decide) k) ?_
          show Own.Fin p e below (T21.setTop (mkF m 98 #[.val (.long q1), .second, .val (.long q2), .second, .val (.long q3), .second, .val (.int p4), .val (.long bb), .second, .val (.long cc), .second, .val (.int (1 : Int32)), .val (.int (0 : Int32)), .val (.int (0 : Int32)), .val (.int (1 : Int32)), .val (.int (1 : Int32)), .unset, .unset] [(.int (1 : Int32))])) _
          refine Own.go (fun t k => XS.iload X21.here hx rfl (hb hby at_98) rfl k) ?_
          show Own.Fin p e below (T21.setTop (mkF m 100 #[.val (.long q1), .second, .val (.long q2), .second, .val (.long q3), .second, .val (.int p4), .val (.long bb), .second, .val (.long cc), .second, .val (.int (1 : Int32)), .val (.int (0 : Int32)), .val (.int (0 : Int32)), .val (.int (1 : Int32)), .val (.int (1 : Int32)), .unset, .unset] [(.int (0 : Int32)), (.int (1 : Int32))])) _
          have hc100_24 : (0 : Int32) = (0 : Int32) := by decide
          refine Own.go (fun t k => XS.ifYes X21.here hx rfl (pc0 := 100) (pc' := 107) rfl (hb hby at_100) rfl ((if0 _ _).trans (teq hc100_24).1) (by decide) (by decide) k) ?_
          show Own.Fin p e below (T21.setTop (mkF m 107 #[.val (.long q1), .second, .val (.long q2), .second, .val (.long q3), .second, .val (.int p4), .val (.long bb), .second, .val (.long cc), .second, .val (.int (1 : Int32)), .val (.int (0 : Int32)), .val (.int (0 : Int32)), .val (.int (1 : Int32)), .val (.int (1 : Int32)), .unset, .unset] [(.int (1 : Int32))])) _
          refine Own.go (fun t k => XS.iconst X21.here hx rfl (hb hby at_107) k) ?_
          show Own.Fin p e below (T21.setTop (mkF m 108 #[.val (.long q1), .second, .val (.long q2), .second, .val (.long q3), .second, .val (.int p4), .val (.long bb), .second, .val (.long cc), .second, .val (.int (1 : Int32)), .val (.int (0 : Int32)), .val (.int (0 : Int32)), .val (.int (1 : Int32)), .val (.int (1 : Int32)), .unset, .unset] [(.int (0 : Int32)), (.int (1 : Int32))])) _
          refine Own.go (fun t k => XS.iadd X21.here hx rfl (hb hby at_108) rfl k) ?_
          show Own.Fin p e below (T21.setTop (mkF m 109 #[.val (.long q1), .second, .val (.long q2), .second, .val (.long q3), .second, .val (.int p4), .val (.long bb), .second, .val (.long cc), .second, .val (.int (1 : Int32)), .val (.int (0 : Int32)), .val (.int (0 : Int32)), .val (.int (1 : Int32)), .val (.int (1 : Int32)), .unset, .unset] [(.int ((1 : Int32) + (0 : Int32)))])) _
          refine Own.go (fun t k => XS.lloadN X21.here hx rfl (hb hby at_109) rfl k) ?_
          show Own.Fin p e below (T21.setTop (mkF m 110 #[.val (.long q1), .second, .val (.long q2), .second, .val (.long q3), .second, .val (.int p4), .val (.long bb), .second, .val (.long cc), .second, .val (.int (1 : Int32)), .val (.int (0 : Int32)), .val (.int (0 : Int32)), .val (.int (1 : Int32)), .val (.int (1 : Int32)), .unset, .unset] [(.long q1), (.int ((1 : Int32) + (0 : Int32)))])) _
          refine Own.go (fun t k => XS.lload X21.here hx rfl (hb hby at_110) rfl k) ?_
          show Own.Fin p e below (T21.setTop (mkF m 112 #[.val (.long q1), .second, .val (.long q2), .second, .val (.long q3), .second, .val (.int p4), .val (.long bb), .second, .val (.long cc), .second, .val (.int (1 : Int32)), .val (.int (0 : Int32)), .val (.int (0 : Int32)), .val (.int (1 : Int32)), .val (.int (1 : Int32)), .unset, .unset] [(.long bb), (.long q1), (.int ((1 : Int32) + (0 : Int32)))])) _
          refine Own.go (fun t k => XS.lcmp X21.here hx rfl (hb hby at_112) rfl k) ?_
          show Own.Fin p e below (T21.setTop (mkF m 113 #[.val (.long q1), .second, .val (.long q2), .second, .val (.long q3), .second, .val (.int p4), .val (.long bb), .second, .val (.long cc), .second, .val (.int (1 : Int32)), .val (.int (0 : Int32)), .val (.int (0 : Int32)), .val (.int (1 : Int32)), .val (.int (1 : Int32)), .unset, .unset] [(.int (lcmpW q1 bb)), (.int ((1 : Int32) + (0 : Int32)))])) _
          have hc113_25 : ¬ ((lcmpW q1 bb) = (0 : Int32)) := fun q => hab.2.2 ((lw_eq _ _).mp q)
          refine Own.go (fun t k => XS.ifYes X21.here hx rfl (pc0 := 113) (pc' := 120) rfl (hb hby at_113) rfl ((if0 _ _).trans (feq hc113_25).2) (by decide) (by decide) k) ?_
          show Own.Fin p e below (T21.setTop (mkF m 120 #[.val (.long q1), .second, .val (.long q2), .second, .val (.long q3), .second, .val (.int p4), .val (.long bb), .second, .val (.long cc), .second, .val (.int (1 : Int32)), .val (.int (0 : Int32)), .val (.int (0 : Int32)), .val (.int (1 : Int32)), .val (.int (1 : Int32)), .unset, .unset] [(.int ((1 : Int32) + (0 : Int32)))])) _
          refine Own.go (fun t k => XS.iconst X21.here hx rfl (hb hby at_120) k) ?_
          show Own.Fin p e below (T21.setTop (mkF m 121 #[.val (.long q1), .second, .val (.long q2), .second, .val (.long q3), .second, .val (.int p4), .val (.long bb), .second, .val (.long cc), .second, .val (.int (1 : Int32)), .val (.int (0 : Int32)), .val (.int (0 : Int32)), .val (.int (1 : Int32)), .val (.int (1 : Int32)), .unset, .unset] [(.int (0 : Int32)), (.int ((1 : Int32) + (0 : Int32)))])) _
          refine Own.go (fun t k => XS.iadd X21.here hx rfl (hb hby at_121) rfl k) ?_
          show Own.Fin p e below (T21.setTop (mkF m 122 #[.val (.long q1), .second, .val (.long q2), .second, .val (.long q3), .second, .val (.int p4), .val (.long bb), .second, .val (.long cc), .second, .val (.int (1 : Int32)), .val (.int (0 : Int32)), .val (.int (0 : Int32)), .val (.int (1 : Int32)), .val (.int (1 : Int32)), .unset, .unset] [(.int (((1 : Int32) + (0 : Int32)) + (0 : Int32)))])) _
          refine Own.go (fun t k => XS.istore X21.here hx rfl (hb hby at_122) rfl (l' := #[.val (.long q1), .second, .val (.long q2), .second, .val (.long q3), .second, .val (.int p4), .val (.long bb), .second, .val (.long cc), .second, .val (.int (1 : Int32)), .val (.int (0 : Int32)), .val (.int (0 : Int32)), .val (.int (1 : Int32)), .val (.int (1 : Int32)), .val (.int (((1 : Int32) + (0 : Int32)) + (0 : Int32))), .unset]) rfl k) ?_
          show Own.Fin p e below (T21.setTop (mkF m 124 #[.val (.long q1), .second, .val (.long q2), .second, .val (.long q3), .second, .val (.int p4), .val (.long bb), .second, .val (.long cc), .second, .val (.int (1 : Int32)), .val (.int (0 : Int32)), .val (.int (0 : Int32)), .val (.int (1 : Int32)), .val (.int (1 : Int32)), .val (.int (((1 : Int32) + (0 : Int32)) + (0 : Int32))), .unset] [])) _
          refine Own.go (fun t k => XS.iload X21.here hx rfl (hb hby at_124) rfl k) ?_
          show Own.Fin p e below (T21.setTop (mkF m 126 #[.val (.long q1), .second, .val (.long q2), .second, .val (.long q3), .second, .val (.int p4), .val (.long bb), .second, .val (.long cc), .second, .val (.int (1 : Int32)), .val (.int (0 : Int32)), .val (.int (0 : Int32)), .val (.int (1 : Int32)), .val (.int (1 : Int32)), .val (.int (((1 : Int32) + (0 : Int32)) + (0 : Int32))), .unset] [(.int (1 : Int32))])) _
          have hc126_26 : ¬ ((1 : Int32) = (0 : Int32)) := by decide
          refine Own.go (fun t k => XS.ifNo X21.here hx rfl (hb hby at_126) rfl ((if0 _ _).trans (feq hc126_26).1) k) ?_
          show Own.Fin p e below (T21.setTop (mkF m 129 #[.val (.long q1), .second, .val (.long q2), .second, .val (.long q3), .second, .val (.int p4), .val (.long bb), .second, .val (.long cc), .second, .val (.int (1 : Int32)), .val (.int (0 : Int32)), .val (.int (0 : Int32)), .val (.int (1 : Int32)), .val (.int (1 : Int32)), .val (.int (((1 : Int32) + (0 : Int32)) + (0 : Int32))), .unset] [])) _
          refine Own.go (fun t k => XS.iload X21.here hx rfl (hb hby at_129) rfl k) ?_
          show Own.Fin p e below (T21.setTop (mkF m 131 #[.val (.long q1), .second, .val (.long q2), .second, .val (.long q3), .second, .val (.int p4), .val (.long bb), .second, .val (.long cc), .second, .val (.int (1 : Int32)), .val (.int (0 : Int32)), .val (.int (0 : Int32)), .val (.int (1 : Int32)), .val (.int (1 : Int32)), .val (.int (((1 : Int32) + (0 : Int32)) + (0 : Int32))), .unset] [(.int (0 : Int32))])) _
          have hc131_27 : (0 : Int32) = (0 : Int32) := by decide
          refine Own.go (fun t k => XS.ifYes X21.here hx rfl (pc0 := 131) (pc' := 139) rfl (hb hby at_131) rfl ((if0 _ _).trans (teq hc131_27).1) (by decide) (by decide) k) ?_
          show Own.Fin p e below (T21.setTop (mkF m 139 #[.val (.long q1), .second, .val (.long q2), .second, .val (.long q3), .second, .val (.int p4), .val (.long bb), .second, .val (.long cc), .second, .val (.int (1 : Int32)), .val (.int (0 : Int32)), .val (.int (0 : Int32)), .val (.int (1 : Int32)), .val (.int (1 : Int32)), .val (.int (((1 : Int32) + (0 : Int32)) + (0 : Int32))), .unset] [])) _
          refine Own.go (fun t k => XS.iconst X21.here hx rfl (hb hby at_139) k) ?_
          show Own.Fin p e below (T21.setTop (mkF m 140 #[.val (.long q1), .second, .val (.long q2), .second, .val (.long q3), .second, .val (.int p4), .val (.long bb), .second, .val (.long cc), .second, .val (.int (1 : Int32)), .val (.int (0 : Int32)), .val (.int (0 : Int32)), .val (.int (1 : Int32)), .val (.int (1 : Int32)), .val (.int (((1 : Int32) + (0 : Int32)) + (0 : Int32))), .unset] [(.int (1 : Int32))])) _
          refine Own.go (fun t k => XS.goto X21.here hx rfl (pc0 := 140) (pc' := 144) rfl (hb hby at_140) (by decide) (by decide) k) ?_
          show Own.Fin p e below (T21.setTop (mkF m 144 #[.val (.long q1), .second, .val (.long q2), .second, .val (.long q3), .second, .val (.int p4), .val (.long bb), .second, .val (.long cc), .second, .val (.int (1 : Int32)), .val (.int (0 : Int32)), .val (.int (0 : Int32)), .val (.int (1 : Int32)), .val (.int (1 : Int32)), .val (.int (((1 : Int32) + (0 : Int32)) + (0 : Int32))), .unset] [(.int (1 : Int32))])) _
          refine Own.go (fun t k => XS.istore X21.here hx rfl (hb hby at_144) rfl (l' := #[.val (.long q1), .second, .val (.long q2), .second, .val (.long q3), .second, .val (.int p4), .val (.long bb), .second, .val (.long cc), .second, .val (.int (1 : Int32)), .val (.int (0 : Int32)), .val (.int (0 : Int32)), .val (.int (1 : Int32)), .val (.int (1 : Int32)), .val (.int (((1 : Int32) + (0 : Int32)) + (0 : Int32))), .val (.int (1 : Int32))]) rfl k) ?_
          show Own.Fin p e below (T21.setTop (mkF m 146 #[.val (.long q1), .second, .val (.long q2), .second, .val (.long q3), .second, .val (.int p4), .val (.long bb), .second, .val (.long cc), .second, .val (.int (1 : Int32)), .val (.int (0 : Int32)), .val (.int (0 : Int32)), .val (.int (1 : Int32)), .val (.int (1 : Int32)), .val (.int (((1 : Int32) + (0 : Int32)) + (0 : Int32))), .val (.int (1 : Int32))] [])) _
          refine Own.go (fun t k => XS.iload X21.here hx rfl (hb hby at_146) rfl k) ?_
          show Own.Fin p e below (T21.setTop (mkF m 148 #[.val (.long q1), .second, .val (.long q2), .second, .val (.long q3), .second, .val (.int p4), .val (.long bb), .second, .val (.long cc), .second, .val (.int (1 : Int32)), .val (.int (0 : Int32)), .val (.int (0 : Int32)), .val (.int (1 : Int32)), .val (.int (1 : Int32)), .val (.int (((1 : Int32) + (0 : Int32)) + (0 : Int32))), .val (.int (1 : Int32))] [(.int (1 : Int32))])) _
          refine Own.go (fun t k => XS.iload X21.here hx rfl (hb hby at_148) rfl k) ?_
          show Own.Fin p e below (T21.setTop (mkF m 150 #[.val (.long q1), .second, .val (.long q2), .second, .val (.long q3), .second, .val (.int p4), .val (.long bb), .second, .val (.long cc), .second, .val (.int (1 : Int32)), .val (.int (0 : Int32)), .val (.int (0 : Int32)), .val (.int (1 : Int32)), .val (.int (1 : Int32)), .val (.int (((1 : Int32) + (0 : Int32)) + (0 : Int32))), .val (.int (1 : Int32))] [(.int (1 : Int32)), (.int (1 : Int32))])) _
          have hc150_28 : (1 : Int32) = (1 : Int32) := by decide
          refine Own.go (fun t k => XS.icmpNo X21.here hx rfl (hb hby at_150) rfl (teq hc150_28).2 k) ?_
          show Own.Fin p e below (T21.setTop (mkF m 153 #[.val (.long q1), .second, .val (.long q2), .second, .val (.long q3), .second, .val (.int p4), .val (.long bb), .second, .val (.long cc), .second, .val (.int (1 : Int32)), .val (.int (0 : Int32)), .val (.int (0 : Int32)), .val (.int (1 : Int32)), .val (.int (1 : Int32)), .val (.int (((1 : Int32) + (0 : Int32)) + (0 : Int32))), .val (.int (1 : Int32))] [])) _
          refine Own.go (fun t k => XS.iload X21.here hx rfl (hb hby at_153) rfl k) ?_
          show Own.Fin p e below (T21.setTop (mkF m 155 #[.val (.long q1), .second, .val (.long q2), .second, .val (.long q3), .second, .val (.int p4), .val (.long bb), .second, .val (.long cc), .second, .val (.int (1 : Int32)), .val (.int (0 : Int32)), .val (.int (0 : Int32)), .val (.int (1 : Int32)), .val (.int (1 : Int32)), .val (.int (((1 : Int32) + (0 : Int32)) + (0 : Int32))), .val (.int (1 : Int32))] [(.int (((1 : Int32) + (0 : Int32)) + (0 : Int32)))])) _
          refine Own.go (fun t k => XS.iconst X21.here hx rfl (hb hby at_155) k) ?_
          show Own.Fin p e below (T21.setTop (mkF m 156 #[.val (.long q1), .second, .val (.long q2), .second, .val (.long q3), .second, .val (.int p4), .val (.long bb), .second, .val (.long cc), .second, .val (.int (1 : Int32)), .val (.int (0 : Int32)), .val (.int (0 : Int32)), .val (.int (1 : Int32)), .val (.int (1 : Int32)), .val (.int (((1 : Int32) + (0 : Int32)) + (0 : Int32))), .val (.int (1 : Int32))] [(.int (1 : Int32)), (.int (((1 : Int32) + (0 : Int32)) + (0 : Int32)))])) _
          have hc156_29 : (((1 : Int32) + (0 : Int32)) + (0 : Int32)) = (1 : Int32) := by decide
          refine Own.go (fun t k => XS.icmpNo X21.here hx rfl (hb hby at_156) rfl (teq hc156_29).2 k) ?_
          show Own.Fin p e below (T21.setTop (mkF m 159 #[.val (.long q1), .second, .val (.long q2), .second, .val (.long q3), .second, .val (.int p4), .val (.long bb), .second, .val (.long cc), .second, .val (.int (1 : Int32)), .val (.int (0 : Int32)), .val (.int (0 : Int32)), .val (.int (1 : Int32)), .val (.int (1 : Int32)), .val (.int (((1 : Int32) + (0 : Int32)) + (0 : Int32))), .val (.int (1 : Int32))] [])) _
          refine Own.go (fun t k => XS.iload X21.here hx rfl (hb hby at_159) rfl k) ?_
          show Own.Fin p e below (T21.setTop (mkF m 161 #[.val (.long q1), .second, .val (.long q2), .second, .val (.long q3), .second, .val (.int p4), .val (.long bb), .second, .val (.long cc), .second, .val (.int (1 : Int32)), .val (.int (0 : Int32)), .val (.int (0 : Int32)), .val (.int (1 : Int32)), .val (.int (1 : Int32)), .val (.int (((1 : Int32) + (0 : Int32)) + (0 : Int32))), .val (.int (1 : Int32))] [(.int (1 : Int32))])) _
          have hc161_30 : ¬ ((1 : Int32) = (0 : Int32)) := by decide
          refine Own.go (fun t k => XS.ifNo X21.here hx rfl (hb hby at_161) rfl ((if0 _ _).trans (feq hc161_30).1) k) ?_
          show Own.Fin p e below (T21.setTop (mkF m 164 #[.val (.long q1), .second, .val (.long q2), .second, .val (.long q3), .second, .val (.int p4), .val (.long bb), .second, .val (.long cc), .second, .val (.int (1 : Int32)), .val (.int (0 : Int32)), .val (.int (0 : Int32)), .val (.int (1 : Int32)), .val (.int (1 : Int32)), .val (.int (((1 : Int32) + (0 : Int32)) + (0 : Int32))), .val (.int (1 : Int32))] [])) _
          refine Own.go (fun t k => XS.iconst X21.here hx rfl (hb hby at_164) k) ?_
          show Own.Fin p e below (T21.setTop (mkF m 165 #[.val (.long q1), .second, .val (.long q2), .second, .val (.long q3), .second, .val (.int p4), .val (.long bb), .second, .val (.long cc), .second, .val (.int (1 : Int32)), .val (.int (0 : Int32)), .val (.int (0 : Int32)), .val (.int (1 : Int32)), .val (.int (1 : Int32)), .val (.int (((1 : Int32) + (0 : Int32)) + (0 : Int32))), .val (.int (1 : Int32))] [(.int (1 : Int32))])) _
          refine Own.go (fun t k => XS.goto X21.here hx rfl (pc0 := 165) (pc' := 169) rfl (hb hby at_165) (by decide) (by decide) k) ?_
          show Own.Fin p e below (T21.setTop (mkF m 169 #[.val (.long q1), .second, .val (.long q2), .second, .val (.long q3), .second, .val (.int p4), .val (.long bb), .second, .val (.long cc), .second, .val (.int (1 : Int32)), .val (.int (0 : Int32)), .val (.int (0 : Int32)), .val (.int (1 : Int32)), .val (.int (1 : Int32)), .val (.int (((1 : Int32) + (0 : Int32)) + (0 : Int32))), .val (.int (1 : Int32))] [(.int (1 : Int32))])) _
          refine Own.retN X21 hx Bd.notSynchronized (t := .boolean) Bd.returns (by simp) (hb hby at_169) (by decide) (by decide) ?_
          exact ⟨rfl, N21⟩
        · skip
          show Own.Fin p e below (s₁.setTop (mkF m 30 #[.val (.long q1), .second, .val (.long q2), .second, .val (.long q3), .second, .val (.int p4), .val (.long bb), .second, .val (.long cc), .second, .unset, .unset, .unset, .unset, .unset, .unset, .unset] [])) _
          refine Own.go (fun t k => XS.lloadN X0.here hx rfl (hb hby at_30) rfl k) ?_
          show Own.Fin p e below (s₁.setTop (mkF m 31 #[.val (.long q1), .second, .val (.long q2), .second, .val (.long q3), .second, .val (.int p4), .val (.long bb), .second, .val (.long cc), .second, .unset, .unset, .unset, .unset, .unset, .unset, .unset] [(.long q1)])) _
          refine Own.go (fun t k => XS.lload X0.here hx rfl (hb hby at_31) rfl k) ?_
          show Own.Fin p e below (s₁.setTop (mkF m 33 #[.val (.long q1), .second, .val (.long q2), .second, .val (.long q3), .second, .val (.int p4), .val (.long bb), .second, .val (.long cc), .second, .unset, .unset, .unset, .unset, .unset, .unset, .unset] [(.long bb), (.long q1)])) _
          refine Own.cS X0 hx hZ hown (hw _ (List.mem_of_getElem? (i := 0) rfl)) (hw _ (List.mem_of_getElem? (i := 1) rfl)) (hw _ (List.mem_of_getElem? (i := 2) rfl)) (hw _ (List.mem_of_getElem? (i := 3) rfl)) (by decide) (rm1 l Z a0 hw [] q1 bb h0 n0 Z0 ) (by decide) (W := 0) (by decide) (argsL := [(.long q1), (.long bb)]) (rest := []) (by rw [hml]; rfl) (lenOf pd_0 rfl) rfl (Nat.le_of_eq rfl) (hb hby at_33) e0 (by decide) (by decide) ?_
          intro T32 L32 v32 X32 hQ32
          obtain ⟨rfl, N32q, e32⟩ := hQ32
          have N32 := Fr.app N0 N32q
          rw [own_co1 hab.1]
          show Own.Fin p e below (T32.setTop (mkF m 36 #[.val (.long q1), .second, .val (.long q2), .second, .val (.long q3), .second, .val (.int p4), .val (.long bb), .second, .val (.long cc), .second, .unset, .unset, .unset, .unset, .unset, .unset, .unset] [(.int (1 : Int32))])) _
          refine Own.go (fun t k => XS.istore X32.here hx rfl (hb hby at_36) rfl (l' := #[.val (.long q1), .second, .val (.long q2), .second, .val (.long q3), .second, .val (.int p4), .val (.long bb), .second, .val (.long cc), .second, .val (.int (1 : Int32)), .unset, .unset, .unset, .unset, .unset, .unset]) rfl k) ?_
          show Own.Fin p e below (T32.setTop (mkF m 38 #[.val (.long q1), .second, .val (.long q2), .second, .val (.long q3), .second, .val (.int p4), .val (.long bb), .second, .val (.long cc), .second, .val (.int (1 : Int32)), .unset, .unset, .unset, .unset, .unset, .unset] [])) _
          refine Own.go (fun t k => XS.lload X32.here hx rfl (hb hby at_38) rfl k) ?_
          show Own.Fin p e below (T32.setTop (mkF m 40 #[.val (.long q1), .second, .val (.long q2), .second, .val (.long q3), .second, .val (.int p4), .val (.long bb), .second, .val (.long cc), .second, .val (.int (1 : Int32)), .unset, .unset, .unset, .unset, .unset, .unset] [(.long bb)])) _
          refine Own.go (fun t k => XS.lloadN X32.here hx rfl (hb hby at_40) rfl k) ?_
          show Own.Fin p e below (T32.setTop (mkF m 41 #[.val (.long q1), .second, .val (.long q2), .second, .val (.long q3), .second, .val (.int p4), .val (.long bb), .second, .val (.long cc), .second, .val (.int (1 : Int32)), .unset, .unset, .unset, .unset, .unset, .unset] [(.long q1), (.long bb)])) _
          refine Own.cS X32 hx hZ hown (hw _ (List.mem_of_getElem? (i := 0) rfl)) (hw _ (List.mem_of_getElem? (i := 1) rfl)) (hw _ (List.mem_of_getElem? (i := 2) rfl)) (hw _ (List.mem_of_getElem? (i := 3) rfl)) (by decide) (rm1 l Z a0 hw [] bb q1 h0 n0 Z0 ) (by decide) (W := 0) (by decide) (argsL := [(.long bb), (.long q1)]) (rest := []) (by rw [hml]; rfl) (lenOf pd_0 rfl) rfl (Nat.le_of_eq rfl) (hb hby at_41) e32 (by decide) (by decide) ?_
          intro T33 L33 v33 X33 hQ33
          obtain ⟨rfl, N33q, e33⟩ := hQ33
          have N33 := Fr.app N32 N33q
          rw [own_co0 hab.2.1]
          show Own.Fin p e below (T33.setTop (mkF m 44 #[.val (.long q1), .second, .val (.long q2), .second, .val (.long q3), .second, .val (.int p4), .val (.long bb), .second, .val (.long cc), .second, .val (.int (1 : Int32)), .unset, .unset, .unset, .unset, .unset, .unset] [(.int (0 : Int32))])) _
          refine Own.go (fun t k => XS.istore X33.here hx rfl (hb hby at_44) rfl (l' := #[.val (.long q1), .second, .val (.long q2), .second, .val (.long q3), .second, .val (.int p4), .val (.long bb), .second, .val (.long cc), .second, .val (.int (1 : Int32)), .val (.int (0 : Int32)), .unset, .unset, .unset, .unset, .unset]) rfl k) ?_
          show Own.Fin p e below (T33.setTop (mkF m 46 #[.val (.long q1), .second, .val (.long q2), .second, .val (.long q3), .second, .val (.int p4), .val (.long bb), .second, .val (.long cc), .second, .val (.int (1 : Int32)), .val (.int (0 : Int32)), .unset, .unset, .unset, .unset, .unset] [])) _
          refine Own.go (fun t k => XS.lload X33.here hx rfl (hb hby at_46) rfl k) ?_
          show Own.Fin p e below (T33.setTop (mkF m 48 #[.val (.long q1), .second, .val (.long q2), .second, .val (.long q3), .second, .val (.int p4), .val (.long bb), .second, .val (.long cc), .second, .val (.int (1 : Int32)), .val (.int (0 : Int32)), .unset, .unset, .unset, .unset, .unset] [(.long bb)])) _
          refine Own.go (fun t k => XS.lload X33.here hx rfl (hb hby at_48) rfl k) ?_
          show Own.Fin p e below (T33.setTop (mkF m 50 #[.val (.long q1), .second, .val (.long q2), .second, .val (.long q3), .second, .val (.int p4), .val (.long bb), .second, .val (.long cc), .second, .val (.int (1 : Int32)), .val (.int (0 : Int32)), .unset, .unset, .unset, .unset, .unset] [(.long cc), (.long bb)])) _
          refine Own.cS X33 hx hZ hown (hw _ (List.mem_of_getElem? (i := 0) rfl)) (hw _ (List.mem_of_getElem? (i := 1) rfl)) (hw _ (List.mem_of_getElem? (i := 2) rfl)) (hw _ (List.mem_of_getElem? (i := 3) rfl)) (by decide) (rm1 l Z a0 hw [] bb cc h0 n0 Z0 ) (by decide) (W := 0) (by decide) (argsL := [(.long bb), (.long cc)]) (rest := []) (by rw [hml]; rfl) (lenOf pd_0 rfl) rfl (Nat.le_of_eq rfl) (hb hby at_50) e33 (by decide) (by decide) ?_
          intro T34 L34 v34 X34 hQ34
          obtain ⟨rfl, N34q, e34⟩ := hQ34
          have N34 := Fr.app N33 N34q
          rw [own_co0 hbc]
          show Own.Fin p e below (T34.setTop (mkF m 53 #[.val (.long q1), .second, .val (.long q2), .second, .val (.long q3), .second, .val (.int p4), .val (.long bb), .second, .val (.long cc), .second, .val (.int (1 : Int32)), .val (.int (0 : Int32)), .unset, .unset, .unset, .unset, .unset] [(.int (0 : Int32))])) _
          refine Own.go (fun t k => XS.istore X34.here hx rfl (hb hby at_53) rfl (l' := #[.val (.long q1), .second, .val (.long q2), .second, .val (.long q3), .second, .val (.int p4), .val (.long bb), .second, .val (.long cc), .second, .val (.int (1 : Int32)), .val (.int (0 : Int32)), .val (.int (0 : Int32)), .unset, .unset, .unset, .unset]) rfl k) ?_
          show Own.Fin p e below (T34.setTop (mkF m 55 #[.val (.long q1), .second, .val (.long q2), .second, .val (.long q3), .second, .val (.int p4), .val (.long bb), .second, .val (.long cc), .second, .val (.int (1 : Int32)), .val (.int (0 : Int32)), .val (.int (0 : Int32)), .unset, .unset, .unset, .unset] [])) _
          refine Own.go (fun t k => XS.lloadN X34.here hx rfl (hb hby at_55) rfl k) ?_
          show Own.Fin p e below (T34.setTop (mkF m 56 #[.val (.long q1), .second, .val (.long q2), .second, .val (.long q3), .second, .val (.int p4), .val (.long bb), .second, .val (.long cc), .second, .val (.int (1 : Int32)), .val (.int (0 : Int32)), .val (.int (0 : Int32)), .unset, .unset, .unset, .unset] [(.long q1)])) _
          refine Own.go (fun t k => XS.lload X34.here hx rfl (hb hby at_56) rfl k) ?_
          show Own.Fin p e below (T34.setTop (mkF m 58 #[.val (.long q1), .second, .val (.long q2), .second, .val (.long q3), .second, .val (.int p4), .val (.long bb), .second, .val (.long cc), .second, .val (.int (1 : Int32)), .val (.int (0 : Int32)), .val (.int (0 : Int32)), .unset, .unset, .unset, .unset] [(.long cc), (.long q1)])) _
          refine Own.cS X34 hx hZ hown (hw _ (List.mem_of_getElem? (i := 0) rfl)) (hw _ (List.mem_of_getElem? (i := 1) rfl)) (hw _ (List.mem_of_getElem? (i := 2) rfl)) (hw _ (List.mem_of_getElem? (i := 3) rfl)) (by decide) (rm1 l Z a0 hw [] q1 cc h0 n0 Z0 ) (by decide) (W := 0) (by decide) (argsL := [(.long q1), (.long cc)]) (rest := []) (by rw [hml]; rfl) (lenOf pd_0 rfl) rfl (Nat.le_of_eq rfl) (hb hby at_58) e34 (by decide) (by decide) ?_
          intro T35 L35 v35 X35 hQ35
          obtain ⟨rfl, N35q, e35⟩ := hQ35
          have N35 := Fr.app N34 N35q
          rw [own_co0 hac]
          show Own.Fin p e below (T35.setTop (mkF m 61 #[.val (.long q1), .second, .val (.long q2), .second, .val (.long q3), .second, .val (.int p4), .val (.long bb), .second, .val (.long cc), .second, .val (.int (1 : Int32)), .val (.int (0 : Int32)), .val (.int (0 : Int32)), .unset, .unset, .unset, .unset] [(.int (0 : Int32))])) _
          refine Own.go (fun t k => XS.istore X35.here hx rfl (hb hby at_61) rfl (l' := #[.val (.long q1), .second, .val (.long q2), .second, .val (.long q3), .second, .val (.int p4), .val (.long bb), .second, .val (.long cc), .second, .val (.int (1 : Int32)), .val (.int (0 : Int32)), .val (.int (0 : Int32)), .val (.int (0 : Int32)), .unset, .unset, .unset]) rfl k) ?_
          show Own.Fin p e below (T35.setTop (mkF m 63 #[.val (.long q1), .second, .val (.long q2), .second, .val (.long q3), .second, .val (.int p4), .val (.long bb), .second, .val (.long cc), .second, .val (.int (1 : Int32)), .val (.int (0 : Int32)), .val (.int (0 : Int32)), .val (.int (0 : Int32)), .unset, .unset, .unset] [])) _
          refine Own.go (fun t k => XS.lloadN X35.here hx rfl (hb hby at_63) rfl k) ?_
          show Own.Fin p e below (T35.setTop (mkF m 64 #[.val (.long q1), .second, .val (.long q2), .second, .val (.long q3), .second, .val (.int p4), .val (.long bb), .second, .val (.long cc), .second, .val (.int (1 : Int32)), .val (.int (0 : Int32)), .val (.int (0 : Int32)), .val (.int (0 : Int32)), .unset, .unset, .unset] [(.long q1)])) _
          refine Own.go (fun t k => XS.lload X35.here hx rfl (hb hby at_64) rfl k) ?_
          show Own.Fin p e below (T35.setTop (mkF m 66 #[.val (.long q1), .second, .val (.long q2), .second, .val (.long q3), .second, .val (.int p4), .val (.long bb), .second, .val (.long cc), .second, .val (.int (1 : Int32)), .val (.int (0 : Int32)), .val (.int (0 : Int32)), .val (.int (0 : Int32)), .unset, .unset, .unset] [(.long bb), (.long q1)])) _
          refine Own.cS X35 hx hZ hown (hw _ (List.mem_of_getElem? (i := 4) rfl)) (hw _ (List.mem_of_getElem? (i := 5) rfl)) (hw _ (List.mem_of_getElem? (i := 6) rfl)) (hw _ (List.mem_of_getElem? (i := 7) rfl)) (by decide) (rm2 l Z a0 hw [] q1 bb h0 n0 Z0 ) (by decide) (W := 0) (by decide) (argsL := [(.long q1), (.long bb)]) (rest := []) (by rw [hml]; rfl) (lenOf pd_1 rfl) rfl (Nat.le_of_eq rfl) (hb hby at_66) e35 (by decide) (by decide) ?_
          intro T36 L36 v36 X36 hQ36
          obtain ⟨rfl, N36q, e36⟩ := hQ36
          have N36 := Fr.app N35 N36q
          rw [own_mx0 hab.2.1]
          show Own.Fin p e below (T36.setTop (mkF m 69 #[.val (.long q1), .second, .val (.long q2), .second, .val (.long q3), .second, .val (.int p4), .val (.long bb), .second, .val (.long cc), .second, .val (.int (1 : Int32)), .val (.int (0 : Int32)), .val (.int (0 : Int32)), .val (.int (0 : Int32)), .unset, .unset, .unset] [(.long q1)])) _
          refine Own.go (fun t k => XS.lloadN X36.here hx rfl (hb hby at_69) rfl k) ?_
          show Own.Fin p e below (T36.setTop (mkF m 70 #[.val (.long q1), .second, .val (.long q2), .second, .val (.long q3), .second, .val (.int p4), .val (.long bb), .second, .val (.long cc), .second, .val (.int (1 : Int32)), .val (.int (0 : Int32)), .val (.int (0 : Int32)), .val (.int (0 : Int32)), .unset, .unset, .unset] [(.long q1), (.long q1)])) _
          refine Own.go (fun t k => XS.lcmp X36.here hx rfl (hb hby at_70) rfl k) ?_
          show Own.Fin p e below (T36.setTop (mkF m 71 #[.val (.long q1), .second, .val (.long q2), .second, .val (.long q3), .second, .val (.int p4), .val (.long bb), .second, .val (.long cc), .second, .val (.int (1 : Int32)), .val (.int (0 : Int32)), .val (.int (0 : Int32)), .val (.int (0 : Int32)), .unset, .unset, .unset] [(.int (lcmpW q1 q1))])) _
          have hc71_36 : (lcmpW q1 q1) = (0 : Int32) := (lw_eq _ _).mpr rfl
          refine Own.go (fun t k => XS.ifNo X36.here hx rfl (hb hby at_71) rfl ((if0 _ _).trans (teq hc71_36).2) k) ?_
          show Own.Fin p e below (T36.setTop (mkF m 74 #[.val (.long q1), .second, .val (.long q2), .second, .val (.long q3), .second, .val (.int p4), .val (.long bb), .second, .val (.long cc), .second, .val (.int (1 : Int32)), .val (.int (0 : Int32)), .val (.int (0 : Int32)), .val (.int (0 : Int32)), .unset, .unset, .unset] [])) _
          refine Own.go (fun t k => XS.lloadN X36.here hx rfl (hb hby at_74) rfl k) ?_
          show Own.Fin p e below (T36.setTop (mkF m 75 #[.val (.long q1), .second, .val (.long q2), .second, .val (.long q3), .second, .val (.int p4), .val (.long bb), .second, .val (.long cc), .second, .val (.int (1 : Int32)), .val (.int (0 : Int32)), .val (.int (0 : Int32)), .val (.int (0 : Int32)), .unset, .unset, .unset] [(.long q1)])) _
          refine Own.go (fun t k => XS.lload X36.here hx rfl (hb hby at_75) rfl k) ?_
          show Own.Fin p e below (T36.setTop (mkF m 77 #[.val (.long q1), .second, .val (.long q2), .second, .val (.long q3), .second, .val (.int p4), .val (.long bb), .second, .val (.long cc), .second, .val (.int (1 : Int32)), .val (.int (0 : Int32)), .val (.int (0 : Int32)), .val (.int (0 : Int32)), .unset, .unset, .unset] [(.long bb), (.long q1)])) _
          refine Own.go (fun t k => XS.lcmp X36.here hx rfl (hb hby at_77) rfl k) ?_
          show Own.Fin p e below (T36.setTop (mkF m 78 #[.val (.long q1), .second, .val (.long q2), .second, .val (.long q3), .second, .val (.int p4), .val (.long bb), .second, .val (.long cc), .second, .val (.int (1 : Int32)), .val (.int (0 : Int32)), .val (.int (0 : Int32)), .val (.int (0 : Int32)), .unset, .unset, .unset] [(.int (lcmpW q1 bb))])) _
          have hc78_37 : ¬ ((lcmpW q1 bb) = (0 : Int32)) := fun q => hab.2.2 ((lw_eq _ _).mp q)
          refine Own.go (fun t k => XS.ifNo X36.here hx rfl (hb hby at_78) rfl ((if0 _ _).trans (feq hc78_37).1) k) ?_
          show Own.Fin p e below (T36.setTop (mkF m 81 #[.val (.long q1), .second, .val (.long q2), .second, .val (.long q3), .second, .val (.int p4), .val (.long bb), .second, .val (.long cc), .second, .val (.int (1 : Int32)), .val (.int (0 : Int32)), .val (.int (0 : Int32)), .val (.int (0 : Int32)), .unset, .unset, .unset] [])) _
          refine Own.go (fun t k => XS.iconst X36.here hx rfl (hb hby at_81) k) ?_
          show Own.Fin p e below (T36.setTop (mkF m 82 #[.val (.long q1), .second, .val (.long q2), .second, .val (.long q3), .second, .val (.int p4), .val (.long bb), .second, .val (.long cc), .second, .val (.int (1 : Int32)), .val (.int (0 : Int32)), .val (.int (0 : Int32)), .val (.int (0 : Int32)), .unset, .unset, .unset] [(.int (1 : Int32))])) _
          refine Own.go (fun t k => XS.goto X36.here hx rfl (pc0 := 82) (pc' := 86) rfl (hb hby at_82) (by decide) (by decide) k) ?_
          show Own.Fin p e below (T36.setTop (mkF m 86 #[.val (.long q1), .second, .val (.long q2), .second, .val (.long q3), .second, .val (.int p4), .val (.long bb), .second, .val (.long cc), .second, .val (.int (1 : Int32)), .val (.int (0 : Int32)), .val (.int (0 : Int32)), .val (.int (0 : Int32)), .unset, .unset, .unset] [(.int (1 : Int32))])) _
          refine Own.go (fun t k => XS.istore X36.here hx rfl (hb hby at_86) rfl (l' := #[.val (.long q1), .second, .val (.long q2), .second, .val (.long q3), .second, .val (.int p4), .val (.long bb), .second, .val (.long cc), .second, .val (.int (1 : Int32)), .val (.int (0 : Int32)), .val (.int (0 : Int32)), .val (.int (0 : Int32)), .val (.int (1 : Int32)), .unset, .unset]) rfl k) ?_
          show Own.Fin p e below (T36.setTop (mkF m 88 #[.val (.long q1), .second, .val (.long q2), .second, .val (.long q3), .second, .val (.int p4), .val (.long bb), .second, .val (.long cc), .second, .val (.int (1 : Int32)), .val (.int (0 : Int32)), .val (.int (0 : Int32)), .val (.int (0 : Int32)), .val (.int (1 : Int32)), .unset, .unset] [])) _
          refine Own.go (fun t k => XS.iload X36.here hx rfl (hb hby at_88) rfl k) ?_
          show Own.Fin p e below (T36.setTop (mkF m 90 #[.val (.long q1), .second, .val (.long q2), .second, .val (.long q3), .second, .val (.int p4), .val (.long bb), .second, .val (.long cc), .second, .val (.int (1 : Int32)), .val (.int (0 : Int32)), .val (.int (0 : Int32)), .val (.int (0 : Int32)), .val (.int (1 : Int32)), .unset, .unset] [(.int (1 : Int32))])) _
          have hc90_38 : ¬ ((1 : Int32) = (0 : Int32)) := by decide
          refine Own.go (fun t k => XS.ifNo X36.here hx rfl (hb hby at_90) rfl ((if0 _ _).trans (feq hc90_38).1) k) ?_
          show Own.Fin p e below (T36.setTop (mkF m 93 #[.val (.long q1), .second, .val (.long q2), .second, .val (.long q3), .second, .val (.int p4), .val (.long bb), .second, .val (.long cc), .second, .val (.int (1 : Int32)), .val (.int (0 : Int32)), .val (.int (0 : Int32)), .val (.int (0 : Int32)), .val (.int (1 : Int32)), .unset, .unset] [])) _
          refine Own.go (fun t k => XS.iconst X36.here hx rfl (hb hby at_93) k) ?_
          show Own.Fin p e below (T36.setTop (mkF m 94 #[.val (.long q1), .second, .val (.long q2), .second, .val (.long q3), .second, .val (.int p4), .val (.long bb), .second, .val (.long cc), .second, .val (.int (1 : Int32)), .val (.int (0 : Int32)), .val (.int (0 : Int32)), .val (.int (0 : Int32)), .val (.int (1 : Int32)), .unset, .unset] [(.int (1 : Int32))])) _
          refine Own.go (fun t k => XS.goto X36.here hx rfl (pc0 := 94) (pc' := 98) rfl (hb hby at_94) (by decide) (by decide) k) ?_
          show Own.Fin p e below (T36.setTop (mkF m 98 #[.val (.long q1), .second, .val (.long q2), .second, .val (.long q3), .second, .val (.int p4), .val (.long bb), .second, .val (.long cc), .second, .val (.int (1 : Int32)), .val (.int (0 : Int32)), .val (.int (0 : Int32)), .val (.int (0 : Int32)), .val (.int (1 : Int32)), .unset, .unset] [(.int (1 : Int32))])) _
          refine Own.go (fun t k => XS.iload X36.here hx rfl (hb hby at_98) rfl k) ?_
          show Own.Fin p e below (T36.setTop (mkF m 100 #[.val (.long q1), .second, .val (.long q2), .second, .val (.long q3), .second, .val (.int p4), .val (.long bb), .second, .val (.long cc), .second, .val (.int (1 : Int32)), .val (.int (0 : Int32)), .val (.int (0 : Int32)), .val (.int (0 : Int32)), .val (.int (1 : Int32)), .unset, .unset] [(.int (0 : Int32)), (.int (1 : Int32))])) _
          have hc100_39 : (0 : Int32) = (0 : Int32) := by decide
          refine Own.go (fun t k => XS.ifYes X36.here hx rfl (pc0 := 100) (pc' := 107) rfl (hb hby at_100) rfl ((if0 _ _).trans (teq hc100_39).1) (by decide) (by decide) k) ?_
          show Own.Fin p e below (T36.setTop (mkF m 107 #[.val (.long q1), .second, .val (.long q2), .second, .val (.long q3), .second, .val (.int p4), .val (.long bb), .second, .val (.long cc), .second, .val (.int (1 : Int32)), .val (.int (0 : Int32)), .val (.int (0 : Int32)), .val (.int (0 : Int32)), .val (.int (1 : Int32)), .unset, .unset] [(.int (1 : Int32))])) _
          refine Own.go (fun t k => XS.iconst X36.here hx rfl (hb hby at_107) k) ?_
          show Own.Fin p e below (T36.setTop (mkF m 108 #[.val (.long q1), .second, .val (.long q2), .second, .val (.long q3), .second, .val (.int p4), .val (.long bb), .second, .val (.long cc), .second, .val (.int (1 : Int32)), .val (.int (0 : Int32)), .val (.int (0 : Int32)), .val (.int (0 : Int32)), .val (.int (1 : Int32)), .unset, .unset] [(.int (0 : Int32)), (.int (1 : Int32))])) _
          refine Own.go (fun t k => XS.iadd X36.here hx rfl (hb hby at_108) rfl k) ?_
          show Own.Fin p e below (T36.setTop (mkF m 109 #[.val (.long q1), .second, .val (.long q2), .second, .val (.long q3), .second, .val (.int p4), .val (.long bb), .second, .val (.long cc), .second, .val (.int (1 : Int32)), .val (.int (0 : Int32)), .val (.int (0 : Int32)), .val (.int (0 : Int32)), .val (.int (1 : Int32)), .unset, .unset] [(.int ((1 : Int32) + (0 : Int32)))])) _
          refine Own.go (fun t k => XS.lloadN X36.here hx rfl (hb hby at_109) rfl k) ?_
          show Own.Fin p e below (T36.setTop (mkF m 110 #[.val (.long q1), .second, .val (.long q2), .second, .val (.long q3), .second, .val (.int p4), .val (.long bb), .second, .val (.long cc), .second, .val (.int (1 : Int32)), .val (.int (0 : Int32)), .val (.int (0 : Int32)), .val (.int (0 : Int32)), .val (.int (1 : Int32)), .unset, .unset] [(.long q1), (.int ((1 : Int32) + (0 : Int32)))])) _
          refine Own.go (fun t k => XS.lload X36.here hx rfl (hb hby at_110) rfl k) ?_
          show Own.Fin p e below (T36.setTop (mkF m 112 #[.val (.long q1), .second, .val (.long q2), .second, .val (.long q3), .second, .val (.int p4), .val (.long bb), .second, .val (.long cc), .second, .val (.int (1 : Int32)), .val (.int (0 : Int32)), .val (.int (0 : Int32)), .val (.int (0 : Int32)), .val (.int (1 : Int32)), .unset, .unset] [(.long bb), (.long q1), (.int ((1 : Int32) + (0 : Int32)))])) _
          refine Own.go (fun t k => XS.lcmp X36.here hx rfl (hb hby at_112) rfl k) ?_
          show Own.Fin p e below (T36.setTop (mkF m 113 #[.val (.long q1), .second, .val (.long q2), .second, .val (.long q3), .second, .val (.int p4), .val (.long bb), .second, .val (.long cc), .second, .val (.int (1 : Int32)), .val (.int (0 : Int32)), .val (.int (0 : Int32)), .val (.int (0 : Int32)), .val (.int (1 : Int32)), .unset, .unset] [(.int (lcmpW q1 bb)), (.int ((1 : Int32) + (0 : Int32)))])) _
          have hc113_40 : ¬ ((lcmpW q1 bb) = (0 : Int32)) := fun q => hab.2.2 ((lw_eq _ _).mp q)
          refine Own.go (fun t k => XS.ifYes X36.here hx rfl (pc0 := 113) (pc' := 120) rfl (hb hby at_113) rfl ((if0 _ _).trans (feq hc113_40).2) (by decide) (by decide) k) ?_
          show Own.Fin p e below (T36.setTop (mkF m 120 #[.val (.long q1), .second, .val (.long q2), .second, .val (.long q3), .second, .val (.int p4), .val (.long bb), .second, .val (.long cc), .second, .val (.int (1 : Int32)), .val (.int (0 : Int32)), .val (.int (0 : Int32)), .val (.int (0 : Int32)), .val (.int (1 : Int32)), .unset, .unset] [(.int ((1 : Int32) + (0 : Int32)))])) _
          refine Own.go (fun t k => XS.iconst X36.here hx rfl (hb hby at_120) k) ?_
          show Own.Fin p e below (T36.setTop (mkF m 121 #[.val (.long q1), .second, .val (.long q2), .second, .val (.long q3), .second, .val (.int p4), .val (.long bb), .second, .val (.long cc), .second, .val (.int (1 : Int32)), .val (.int (0 : Int32)), .val (.int (0 : Int32)), .val (.int (0 : Int32)), .val (.int (1 : Int32)), .unset, .unset] [(.int (0 : Int32)), (.int ((1 : Int32) + (0 : Int32)))])) _
          refine Own.go (fun t k => XS.iadd X36.here hx rfl (hb hby at_121) rfl k) ?_
          show Own.Fin p e below (T36.setTop (mkF m 122 #[.val (.long q1), .second, .val (.long q2), .second, .val (.long q3), .second, .val (.int p4), .val (.long bb), .second, .val (.long cc), .second, .val (.int (1 : Int32)), .val (.int (0 : Int32)), .val (.int (0 : Int32)), .val (.int (0 : Int32)), .val (.int (1 : Int32)), .unset, .unset] [(.int (((1 : Int32) + (0 : Int32)) + (0 : Int32)))])) _
          refine Own.go (fun t k => XS.istore X36.here hx rfl (hb hby at_122) rfl (l' := #[.val (.long q1), .second, .val (.long q2), .second, .val (.long q3), .second, .val (.int p4), .val (.long bb), .second, .val (.long cc), .second, .val (.int (1 : Int32)), .val (.int (0 : Int32)), .val (.int (0 : Int32)), .val (.int (0 : Int32)), .val (.int (1 : Int32)), .val (.int (((1 : Int32) + (0 : Int32)) + (0 : Int32))), .unset]) rfl k) ?_
          show Own.Fin p e below (T36.setTop (mkF m 124 #[.val (.long q1), .second, .val (.long q2), .second, .val (.long q3), .second, .val (.int p4), .val (.long bb), .second, .val (.long cc), .second, .val (.int (1 : Int32)), .val (.int (0 : Int32)), .val (.int (0 : Int32)), .val (.int (0 : Int32)), .val (.int (1 : Int32)), .val (.int (((1 : Int32) + (0 : Int32)) + (0 : Int32))), .unset] [])) _
          refine Own.go (fun t k => XS.iload X36.here hx rfl (hb hby at_124) rfl k) ?_
          show Own.Fin p e below (T36.setTop (mkF m 126 #[.val (.long q1), .second, .val (.long q2), .second, .val (.long q3), .second, .val (.int p4), .val (.long bb), .second, .val (.long cc), .second, .val (.int (1 : Int32)), .val (.int (0 : Int32)), .val (.int (0 : Int32)), .val (.int (0 : Int32)), .val (.int (1 : Int32)), .val (.int (((1 : Int32) + (0 : Int32)) + (0 : Int32))), .unset] [(.int (1 : Int32))])) _
          have hc126_41 : ¬ ((1 : Int32) = (0 : Int32)) := by decide
          refine Own.go (fun t k => XS.ifNo X36.here hx rfl (hb hby at_126) rfl ((if0 _ _).trans (feq hc126_41).1) k) ?_
          show Own.Fin p e below (T36.setTop (mkF m 129 #[.val (.long q1), .second, .val (.long q2), .second, .val (.long q3), .second, .val (.int p4), .val (.long bb), .second, .val (.long cc), .second, .val (.int (1 : Int32)), .val (.int (0 : Int32)), .val (.int (0 : Int32)), .val (.int (0 : Int32)), .val (.int (1 : Int32)), .val (.int (((1 : Int32) + (0 : Int32)) + (0 : Int32))), .unset] [])) _
          refine Own.go (fun t k => XS.iload X36.here hx rfl (hb hby at_129) rfl k) ?_
          show Own.Fin p e below (T36.setTop (mkF m 131 #[.val (.long q1), .second, .val (.long q2), .second, .val (.long q3), .second, .val (.int p4), .val (.long bb), .second, .val (.long cc), .second, .val (.int (1 : Int32)), .val (.int (0 : Int32)), .val (.int (0 : Int32)), .val (.int (0 : Int32)), .val (.int (1 : Int32)), .val (.int (((1 : Int32) + (0 : Int32)) + (0 : Int32))), .unset] [(.int (0 : Int32))])) _
          have hc131_42 : (0 : Int32) = (0 : Int32) := by decide
          refine Own.go (fun t k => XS.ifYes X36.here hx rfl (pc0 := 131) (pc' := 139) rfl (hb hby at_131) rfl ((if0 _ _).trans (teq hc131_42).1) (by decide) (by decide) k) ?_
          show Own.Fin p e below (T36.setTop (mkF m 139 #[.val (.long q1), .second, .val (.long q2), .second, .val (.long q3), .second, .val (.int p4), .val (.long bb), .second, .val (.long cc), .second, .val (.int (1 : Int32)), .val (.int (0 : Int32)), .val (.int (0 : Int32)), .val (.int (0 : Int32)), .val (.int (1 : Int32)), .val (.int (((1 : Int32) + (0 : Int32)) + (0 : Int32))), .unset] [])) _
          refine Own.go (fun t k => XS.iconst X36.here hx rfl (hb hby at_139) k) ?_
          show Own.Fin p e below (T36.setTop (mkF m 140 #[.val (.long q1), .second, .val (.long q2), .second, .val (.long q3), .second, .val (.int p4), .val (.long bb), .second, .val (.long cc), .second, .val (.int (1 : Int32)), .val (.int (0 : Int32)), .val (.int (0 : Int32)), .val (.int (0 : Int32)), .val (.int (1 : Int32)), .val (.int (((1 : Int32) + (0 : Int32)) + (0 : Int32))), .unset] [(.int (1 : Int32))])) _
          refine Own.go (fun t k => XS.goto X36.here hx rfl (pc0 := 140) (pc' := 144) rfl (hb hby at_140) (by decide) (by decide) k) ?_
          show Own.Fin p e below (T36.setTop (mkF m 144 #[.val (.long q1), .second, .val (.long q2), .second, .val (.long q3), .second, .val (.int p4), .val (.long bb), .second, .val (.long cc), .second, .val (.int (1 : Int32)), .val (.int (0 : Int32)), .val (.int (0 : Int32)), .val (.int (0 : Int32)), .val (.int (1 : Int32)), .val (.int (((1 : Int32) + (0 : Int32)) + (0 : Int32))), .unset] [(.int (1 : Int32))])) _
          refine Own.go (fun t k => XS.istore X36.here hx rfl (hb hby at_144) rfl (l' := #[.val (.long q1), .second, .val (.long q2), .second, .val (.long q3), .second, .val (.int p4), .val (.long bb), .second, .val (.long cc), .second, .val (.int (1 : Int32)), .val (.int (0 : Int32)), .val (.int (0 : Int32)), .val (.int (0 : Int32)), .val (.int (1 : Int32)), .val (.int (((1 : Int32) + (0 : Int32)) + (0 : Int32))), .val (.int (1 : Int32))]) rfl k) ?_
          show Own.Fin p e below (T36.setTop (mkF m 146 #[.val (.long q1), .second, .val (.long q2), .second, .val (.long q3), .second, .val (.int p4), .val (.long bb), .second, .val (.long cc), .second, .val (.int (1 : Int32)), .val (.int (0 : Int32)), .val (.int (0 : Int32)), .val (.int (0 : Int32)), .val (.int (1 : Int32)), .val (.int (((1 : Int32) + (0 : Int32)) + (0 : Int32))), .val (.int (1 : Int32))] [])) _
          refine Own.go (fun t k => XS.iload X36.here hx rfl (hb hby at_146) rfl k) ?_
          show Own.Fin p e below (T36.setTop (mkF m 148 #[.val (.long q1), .second, .val (.long q2), .second, .val (.long q3), .second, .val (.int p4), .val (.long bb), .second, .val (.long cc), .second, .val (.int (1 : Int32)), .val (.int (0 : Int32)), .val (.int (0 : Int32)), .val (.int (0 : Int32)), .val (.int (1 : Int32)), .val (.int (((1 : Int32) + (0 : Int32)) + (0 : Int32))), .val (.int (1 : Int32))] [(.int (1 : Int32))])) _
          refine Own.go (fun t k => XS.iload X36.here hx rfl (hb hby at_148) rfl k) ?_
          show Own.Fin p e below (T36.setTop (mkF m 150 #[.val (.long q1), .second, .val (.long q2), .second, .val (.long q3), .second, .val (.int p4), .val (.long bb), .second, .val (.long cc), .second, .val (.int (1 : Int32)), .val (.int (0 : Int32)), .val (.int (0 : Int32)), .val (.int (0 : Int32)), .val (.int (1 : Int32)), .val (.int (((1 : Int32) + (0 : Int32)) + (0 : Int32))), .val (.int (1 : Int32))] [(.int (1 : Int32)), (.int (1 : Int32))])) _
          have hc150_43 : (1 : Int32) = (1 : Int32) := by decide
          refine Own.go (fun t k => XS.icmpNo X36.here hx rfl (hb hby at_150) rfl (teq hc150_43).2 k) ?_
          show Own.Fin p e below (T36.setTop (mkF m 153 #[.val (.long q1), .second, .val (.long q2), .second, .val (.long q3), .second, .val (.int p4), .val (.long bb), .second, .val (.long cc), .second, .val (.int (1 : Int32)), .val (.int (0 : Int32)), .val (.int (0 : Int32)), .val (.int (0 : Int32)), .val (.int (1 : Int32)), .val (.int (((1 : Int32) + (0 : Int32)) + (0 : Int32))), .val (.int (1 : Int32))] [])) _
          refine Own.go (fun t k => XS.iload X36.here hx rfl (hb hby at_153) rfl k) ?_
          show Own.Fin p e below (T36.setTop (mkF m 155 #[.val (.long q1), .second, .val (.long q2), .second, .val (.long q3), .second, .val (.int p4), .val (.long bb), .second, .val (.long cc), .second, .val (.int (1 : Int32)), .val (.int (0 : Int32)), .val (.int (0 : Int32)), .val (.int (0 : Int32)), .val (.int (1 : Int32)), .val (.int (((1 : Int32) + (0 : Int32)) + (0 : Int32))), .val (.int (1 : Int32))] [(.int (((1 : Int32) + (0 : Int32)) + (0 : Int32)))])) _
          refine Own.go (fun t k => XS.iconst X36.here hx rfl (hb hby at_155) k) ?_
          show Own.Fin p e below (T36.setTop (mkF m 156 #[.val (.long q1), .second, .val (.long q2), .second, .val (.long q3), .second, .val (.int p4), .val (.long bb), .second, .val (.long cc), .second, .val (.int (1 : Int32)), .val (.int (0 : Int32)), .val (.int (0 : Int32)), .val (.int (0 : Int32)), .val (.int (1 : Int32)), .val (.int (((1 : Int32) + (0 : Int32)) + (0 : Int32))), .val (.int (1 : Int32))] [(.int (1 : Int32)), (.int (((1 : Int32) + (0 : Int32)) + (0 : Int32)))])) _
          have hc156_44 : (((1 : Int32) + (0 : Int32)) + (0 : Int32)) = (1 : Int32) := by decide
          refine Own.go (fun t k => XS.icmpNo X36.here hx rfl (hb hby at_156) rfl (teq hc156_44).2 k) ?_
          show Own.Fin p e below (T36.setTop (mkF m 159 #[.val (.long q1), .second, .val (.long q2), .second, .val (.long q3), .second, .val (.int p4), .val (.long bb), .second, .val (.long cc), .second, .val (.int (1 : Int32)), .val (.int (0 : Int32)), .val (.int (0 : Int32)), .val (.int (0 : Int32)), .val (.int (1 : Int32)), .val (.int (((1 : Int32) + (0 : Int32)) + (0 : Int32))), .val (.int (1 : Int32))] [])) _
          refine Own.go (fun t k => XS.iload X36.here hx rfl (hb hby at_159) rfl k) ?_
          show Own.Fin p e below (T36.setTop (mkF m 161 #[.val (.long q1), .second, .val (.long q2), .second, .val (.long q3), .second, .val (.int p4), .val (.long bb), .second, .val (.long cc), .second, .val (.int (1 : Int32)), .val (.int (0 : Int32)), .val (.int (0 : Int32)), .val (.int (0 : Int32)), .val (.int (1 : Int32)), .val (.int (((1 : Int32) + (0 : Int32)) + (0 : Int32))), .val (.int (1 : Int32))] [(.int (1 : Int32))])) _
          have hc161_45 : ¬ ((1 : Int32) = (0 : Int32)) := by decide
          refine Own.go (fun t k => XS.ifNo X36.here hx rfl (hb hby at_161) rfl ((if0 _ _).trans (feq hc161_45).1) k) ?_
          show Own.Fin p e below (T36.setTop (mkF m 164 #[.val (.long q1), .second, .val (.long q2), .second, .val (.long q3), .second, .val (.int p4), .val (.long bb), .second, .val (.long cc), .second, .val (.int (1 : Int32)), .val (.int (0 : Int32)), .val (.int (0 : Int32)), .val (.int (0 : Int32)), .val (.int (1 : Int32)), .val (.int (((1 : Int32) + (0 : Int32)) + (0 : Int32))), .val (.int (1 : Int32))] [])) _
          refine Own.go (fun t k => XS.iconst X36.here hx rfl (hb hby at_164) k) ?_
          show Own.Fin p e below (T36.setTop (mkF m 165 #[.val (.long q1), .second, .val (.long q2), .second, .val (.long q3), .second, .val (.int p4), .val (.long bb), .second, .val (.long cc), .second, .val (.int (1 : Int32)), .val (.int (0 : Int32)), .val (.int (0 : Int32)), .val (.int (0 : Int32)), .val (.int (1 : Int32)), .val (.int (((1 : Int32) + (0 : Int32)) + (0 : Int32))), .val (.int (1 : Int32))] [(.int (1 : Int32))])) _
          refine Own.go (fun t k => XS.goto X36.here hx rfl (pc0 := 165) (pc' := 169) rfl (hb hby at_165) (by decide) (by decide) k) ?_
          show Own.Fin p e below (T36.setTop (mkF m 169 #[.val (.long q1), .second, .val (.long q2), .second, .val (.long q3), .second, .val (.int p4), .val (.long bb), .second, .val (.long cc), .second, .val (.int (1 : Int32)), .val (.int (0 : Int32)), .val (.int (0 : Int32)), .val (.int (0 : Int32)), .val (.int (1 : Int32)), .val (.int (((1 : Int32) + (0 : Int32)) + (0 : Int32))), .val (.int (1 : Int32))] [(.int (1 : Int32))])) _
          refine Own.retN X36 hx Bd.notSynchronized (t := .boolean) Bd.returns (by simp) (hb hby at_169) (by decide) (by decide) ?_
          exact ⟨rfl, N36⟩
    · by_cases hbc : cc < bb
      · by_cases hac : cc < q1
        · skip
          show Own.Fin p e below (s₁.setTop (mkF m 30 #[.val (.long q1), .second, .val (.long q2), .second, .val (.long q3), .second, .val (.int p4), .val (.long bb), .second, .val (.long cc), .second, .unset, .unset, .unset, .unset, .unset, .unset, .unset] [])) _
          refine Own.go (fun t k => XS.lloadN X0.here hx rfl (hb hby at_30) rfl k) ?_
          show Own.Fin p e below (s₁.setTop (mkF m 31 #[.val (.long q1), .second, .val (.long q2), .second, .val (.long q3), .second, .val (.int p4), .val (.long bb), .second, .val (.long cc), .second, .unset, .unset, .unset, .unset, .unset, .unset, .unset] [(.long q1)])) _
          refine Own.go (fun t k => XS.lload X0.here hx rfl (hb hby at_31) rfl k) ?_
          show Own.Fin p e below (s₁.setTop (mkF m 33 #[.val (.long q1), .second, .val (.long q2), .second, .val (.long q3), .second, .val (.int p4), .val (.long bb), .second, .val (.long cc), .second, .unset, .unset, .unset, .unset, .unset, .unset, .unset] [(.long bb), (.long q1)])) _
          refine Own.cS X0 hx hZ hown (hw _ (List.mem_of_getElem? (i := 0) rfl)) (hw _ (List.mem_of_getElem? (i := 1) rfl)) (hw _ (List.mem_of_getElem? (i := 2) rfl)) (hw _ (List.mem_of_getElem? (i := 3) rfl)) (by decide) (rm1 l Z a0 hw [] q1 bb h0 n0 Z0 ) (by decide) (W := 0) (by decide) (argsL := [(.long q1), (.long bb)]) (rest := []) (by rw [hml]; rfl) (lenOf pd_0 rfl) rfl (Nat.le_of_eq rfl) (hb hby at_33) e0 (by decide) (by decide) ?_
          intro T47 L47 v47 X47 hQ47
          obtain ⟨rfl, N47q, e47⟩ := hQ47
          have N47 := Fr.app N0 N47q
          rw [own_co0 hab.2.2]
          show Own.Fin p e below (T47.setTop (mkF m 36 #[.val (.long q1), .second, .val (.long q2), .second, .val (.long q3), .second, .val (.int p4), .val (.long bb), .second, .val (.long cc), .second, .unset, .unset, .unset, .unset, .unset, .unset, .unset] [(.int (0 : Int32))])) _
          refine Own.go (fun t k => XS.istore X47.here hx rfl (hb hby at_36) rfl (l' := #[.val (.long q1), .second, .val (.long q2), .second, .val (.long q3), .second, .val (.int p4), .val (.long bb), .second, .val (.long cc), .second, .val (.int (0 : Int32)), .unset, .unset, .unset, .unset, .unset, .unset]) rfl k) ?_
          show Own.Fin p e below (T47.setTop (mkF m 38 #[.val (.long q1), .second, .val (.long q2), .second, .val (.long q3), .second, .val (.int p4), .val (.long bb), .second, .val (.long cc), .second, .val (.int (0 : Int32)), .unset, .unset, .unset, .unset, .unset, .unset] [])) _
          refine Own.go (fun t k => XS.lload X47.here hx rfl (hb hby at_38) rfl k) ?_
          show Own.Fin p e below (T47.setTop (mkF m 40 #[.val (.long q1), .second, .val (.long q2), .second, .val (.long q3), .second, .val (.int p4), .val (.long bb), .second, .val (.long cc), .second, .val (.int (0 : Int32)), .unset, .unset, .unset, .unset, .unset, .unset] [(.long bb)])) _
          refine Own.go (fun t k => XS.lloadN X47.here hx rfl (hb hby at_40) rfl k) ?_
          show Own.Fin p e below (T47.setTop (mkF m 41 #[.val (.long q1), .second, .val (.long q2), .second, .val (.long q3), .second, .val (.int p4), .val (.long bb), .second, .val (.long cc), .second, .val (.int (0 : Int32)), .unset, .unset, .unset, .unset, .unset, .unset] [(.long q1), (.long bb)])) _
          refine Own.cS X47 hx hZ hown (hw _ (List.mem_of_getElem? (i := 0) rfl)) (hw _ (List.mem_of_getElem? (i := 1) rfl)) (hw _ (List.mem_of_getElem? (i := 2) rfl)) (hw _ (List.mem_of_getElem? (i := 3) rfl)) (by decide) (rm1 l Z a0 hw [] bb q1 h0 n0 Z0 ) (by decide) (W := 0) (by decide) (argsL := [(.long bb), (.long q1)]) (rest := []) (by rw [hml]; rfl) (lenOf pd_0 rfl) rfl (Nat.le_of_eq rfl) (hb hby at_41) e47 (by decide) (by decide) ?_
          intro T48 L48 v48 X48 hQ48
          obtain ⟨rfl, N48q, e48⟩ := hQ48
          have N48 := Fr.app N47 N48q
          rw [own_co0 hab.2.1]
          show Own.Fin p e below (T48.setTop (mkF m 44 #[.val (.long q1), .second, .val (.long q2), .second, .val (.long q3), .second, .val (.int p4), .val (.long bb), .second, .val (.long cc), .second, .val (.int (0 : Int32)), .unset, .unset, .unset, .unset, .unset, .unset] [(.int (0 : Int32))])) _
          refine Own.go (fun t k => XS.istore X48.here hx rfl (hb hby at_44) rfl (l' := #[.val (.long q1), .second, .val (.long q2), .second, .val (.long q3), .second, .val (.int p4), .val (.long bb), .second, .val (.long cc), .second, .val (.int (0 : Int32)), .val (.int (0 : Int32)), .unset, .unset, .unset, .unset, .unset]) rfl k) ?_
          show Own.Fin p e below (T48.setTop (mkF m 46 #[.val (.long q1), .second, .val (.long q2), .second, .val (.long q3), .second, .val (.int p4), .val (.long bb), .second, .val (.long cc), .second, .val (.int (0 : Int32)), .val (.int (0 : Int32)), .unset, .unset, .unset, .unset, .unset] [])) _
          refine Own.go (fun t k => XS.lload X48.here hx rfl (hb hby at_46) rfl k) ?_
          show Own.Fin p e below (T48.setTop (mkF m 48 #[.val (.long q1), .second, .val (.long q2), .second, .val (.long q3), .second, .val (.int p4), .val (.long bb), .second, .val (.long cc), .second, .val (.int (0 : Int32)), .val (.int (0 : Int32)), .unset, .unset, .unset, .unset, .unset] [(.long bb)])) _
          refine Own.go (fun t k => XS.lload X48.here hx rfl (hb hby at_48) rfl k) ?_
          show Own.Fin p e below (T48.setTop (mkF m 50 #[.val (.long q1), .second, .val (.long q2), .second, .val (.long q3), .second, .val (.int p4), .val (.long bb), .second, .val (.long cc), .second, .val (.int (0 : Int32)), .val (.int (0 : Int32)), .unset, .unset, .unset, .unset, .unset] [(.long cc), (.long bb)])) _
          refine Own.cS X48 hx hZ hown (hw _ (List.mem_of_getElem? (i := 0) rfl)) (hw _ (List.mem_of_getElem? (i := 1) rfl)) (hw _ (List.mem_of_getElem? (i := 2) rfl)) (hw _ (List.mem_of_getElem? (i := 3) rfl)) (by decide) (rm1 l Z a0 hw [] bb cc h0 n0 Z0 ) (by decide) (W := 0) (by decide) (argsL := [(.long bb), (.long cc)]) (rest := []) (by rw [hml]; rfl) (lenOf pd_0 rfl) rfl (Nat.le_of_eq rfl) (hb hby at_50) e48 (by decide) (by decide) ?_
          intro T49 L49 v49 X49 hQ49
          obtain ⟨rfl, N49q, e49⟩ := hQ49
          have N49 := Fr.app N48 N49q
          rw [own_co1 hbc]
          show Own.Fin p e below (T49.setTop (mkF m 53 #[.val (.long q1), .second, .val (.long q2), .second, .val (.long q3), .second, .val (.int p4), .val (.long bb), .second, .val (.long cc), .second, .val (.int (0 : Int32)), .val (.int (0 : Int32)), .unset, .unset, .unset, .unset, .unset] [(.int (1 : Int32))])) _
          refine Own.go (fun t k => XS.istore X49.here hx rfl (hb hby at_53) rfl (l' := #[.val (.long q1), .second, .val (.long q2), .second, .val (.long q3), .second, .val (.int p4), .val (.long bb), .second, .val (.long cc), .second, .val (.int (0 : Int32)), .val (.int (0 : Int32)), .val (.int (1 : Int32)), .unset, .unset, .unset, .unset]) rfl k) ?_
          show Own.Fin p e below (T49.setTop (mkF m 55 #[.val (.long q1), .second, .val (.long q2), .second, .val (.long q3), .second, .val (.int p4), .val (.long bb), .second, .val (.long cc), .second, .val (.int (0 : Int32)), .val (.int (0 : Int32)), .val (.int (1 : Int32)), .unset, .unset, .unset, .unset] [])) _
          refine Own.go (fun t k => XS.lloadN X49.here hx rfl (hb hby at_55) rfl k) ?_
          show Own.Fin p e below (T49.setTop (mkF m 56 #[.val (.long q1), .second, .val (.long q2), .second, .val (.long q3), .second, .val (.int p4), .val (.long bb), .second, .val (.long cc), .second, .val (.int (0 : Int32)), .val (.int (0 : Int32)), .val (.int (1 : Int32)), .unset, .unset, .unset, .unset] [(.long q1)])) _
          refine Own.go (fun t k => XS.lload X49.here hx rfl (hb hby at_56) rfl k) ?_
          show Own.Fin p e below (T49.setTop (mkF m 58 #[.val (.long q1), .second, .val (.long q2), .second, .val (.long q3), .second, .val (.int p4), .val (.long bb), .second, .val (.long cc), .second, .val (.int (0 : Int32)), .val (.int (0 : Int32)), .val (.int (1 : Int32)), .unset, .unset, .unset, .unset] [(.long cc), (.long q1)])) _
          refine Own.cS X49 hx hZ hown (hw _ (List.mem_of_getElem? (i := 0) rfl)) (hw _ (List.mem_of_getElem? (i := 1) rfl)) (hw _ (List.mem_of_getElem? (i := 2) rfl)) (hw _ (List.mem_of_getElem? (i := 3) rfl)) (by decide) (rm1 l Z a0 hw [] q1 cc h0 n0 Z0 ) (by decide) (W := 0) (by decide) (argsL := [(.long q1), (.long cc)]) (rest := []) (by rw [hml]; rfl) (lenOf pd_0 rfl) rfl (Nat.le_of_eq rfl) (hb hby at_58) e49 (by decide) (by decide) ?_
          intro T50 L50 v50 X50 hQ50
          obtain ⟨rfl, N50q, e50⟩ := hQ50
          have N50 := Fr.app N49 N50q
          rw [own_co1 hac]
          show Own.Fin p e below (T50.setTop (mkF m 61 #[.val (.long q1), .second, .val (.long q2), .second, .val (.long q3), .second, .val (.int p4), .val (.long bb), .second, .val (.long cc), .second, .val (.int (0 : Int32)), .val (.int (0 : Int32)), .val (.int (1 : Int32)), .unset, .unset, .unset, .unset] [(.int (1 : Int32))])) _
          refine Own.go (fun t k => XS.istore X50.here hx rfl (hb hby at_61) rfl (l' := #[.val (.long q1), .second, .val (.long q2), .second, .val (.long q3), .second, .val (.int p4), .val (.long bb), .second, .val (.long cc), .second, .val (.int (0 : Int32)), .val (.int (0 : Int32)), .val (.int (1 : Int32)), .val (.int (1 : Int32)), .unset, .unset, .unset]) rfl k) ?_
          show Own.Fin p e below (T50.setTop (mkF m 63 #[.val (.long q1), .second, .val (.long q2), .second, .val (.long q3), .second, .val (.int p4), .val (.long bb), .second, .val (.long cc), .second, .val (.int (0 : Int32)), .val (.int (0 : Int32)), .val (.int (1 : Int32)), .val (.int (1 : Int32)), .unset, .unset, .unset] [])) _
          refine Own.go (fun t k => XS.lloadN X50.here hx rfl (hb hby at_63) rfl k) ?_
          show Own.Fin p e below (T50.setTop (mkF m 64 #[.val (.long q1), .second, .val (.long q2), .second, .val (.long q3), .second, .val (.int p4), .val (.long bb), .second, .val (.long cc), .second, .val (.int (0 : Int32)), .val (.int (0 : Int32)), .val (.int (1 : Int32)), .val (.int (1 : Int32)), .unset, .unset, .unset] [(.long q1)])) _
          refine Own.go (fun t k => XS.lload X50.here hx rfl (hb hby at_64) rfl k) ?_
          show Own.Fin p e below (T50.setTop (mkF m 66 #[.val (.long q1), .second, .val (.long q2), .second, .val (.long q3), .second, .val (.int p4), .val (.long bb), .second, .val (.long cc), .second, .val (.int (0 : Int32)), .val (.int (0 : Int32)), .val (.int (1 : Int32)), .val (.int (1 : Int32)), .unset, .unset, .unset] [(.long bb), (.long q1)])) _
          refine Own.cS X50 hx hZ hown (hw _ (List.mem_of_getElem? (i := 4) rfl)) (hw _ (List.mem_of_getElem? (i := 5) rfl)) (hw _ (List.mem_of_getElem? (i := 6) rfl)) (hw _ (List.mem_of_getElem? (i := 7) rfl)) (by decide) (rm2 l Z a0 hw [] q1 bb h0 n0 Z0 ) (by decide) (W := 0) (by decide) (argsL := [(.long q1), (.long bb)]) (rest := []) (by rw [hml]; rfl) (lenOf pd_1 rfl) rfl (Nat.le_of_eq rfl) (hb hby at_66) e50 (by decide) (by decide) ?_
          intro T51 L51 v51 X51 hQ51
          obtain ⟨rfl, N51q, e51⟩ := hQ51
          have N51 := Fr.app N50 N51q
          rw [own_mx0 hab.2.1]
          show Own.Fin p e below (T51.setTop (mkF m 69 #[.val (.long q1), .second, .val (.long q2), .second, .val (.long q3), .second, .val (.int p4), .val (.long bb), .second, .val (.long cc), .second, .val (.int (0 : Int32)), .val (.int (0 : Int32)), .val (.int (1 : Int32)), .val (.int (1 : Int32)), .unset, .unset, .unset] [(.long q1)])) _
          refine Own.go (fun t k => XS.lloadN X51.here hx rfl (hb hby at_69) rfl k) ?_
          show Own.Fin p e below (T51.setTop (mkF m 70 #[.val (.long q1), .second, .val (.long q2), .second, .val (.long q3), .second, .val (.int p4), .val (.long bb), .second, .val (.long cc), .second, .val (.int (0 : Int32)), .val (.int (0 : Int32)), .val (.int (1 : Int32)), .val (.int (1 : Int32)), .unset, .unset, .unset] [(.long q1), (.long q1)])) _
          refine Own.go (fun t k => XS.lcmp X51.here hx rfl (hb hby at_70) rfl k) ?_
          show Own.Fin p e below (T51.setTop (mkF m 71 #[.val (.long q1), .second, .val (.long q2), .second, .val (.long q3), .second, .val (.int p4), .val (.long bb), .second, .val (.long cc), .second, .val (.int (0 : Int32)), .val (.int (0 : Int32)), .val (.int (1 : Int32)), .val (.int (1 : Int32)), .unset, .unset, .unset] [(.int (lcmpW q1 q1))])) _
          have hc71_51 : (lcmpW q1 q1) = (0 : Int32) := (lw_eq _ _).mpr rfl
          refine Own.go (fun t k => XS.ifNo X51.here hx rfl (hb hby at_71) rfl ((if0 _ _).trans (teq hc71_51).2) k) ?_
          show Own.Fin p e below (T51.setTop (mkF m 74 #[.val (.long q1), .second, .val (.long q2), .second, .val (.long q3), .second, .val (.int p4), .val (.long bb), .second, .val (.long cc), .second, .val (.int (0 : Int32)), .val (.int (0 : Int32)), .val (.int (1 : Int32)), .val (.int (1 : Int32)), .unset, .unset, .unset] [])) _
          refine Own.go (fun t k => XS.lloadN X51.here hx rfl (hb hby at_74) rfl k) ?_
          show Own.Fin p e below (T51.setTop (mkF m 75 #[.val (.long q1), .second, .val (.long q2), .second, .val (.long q3), .second, .val (.int p4), .val (.long bb), .second, .val (.long cc), .second, .val (.int (0 : Int32)), .val (.int (0 : Int32)), .val (.int (1 : Int32)), .val (.int (1 : Int32)), .unset, .unset, .unset] [(.long q1)])) _
          refine Own.go (fun t k => XS.lload X51.here hx rfl (hb hby at_75) rfl k) ?_
          show Own.Fin p e below (T51.setTop (mkF m 77 #[.val (.long q1), .second, .val (.long q2), .second, .val (.long q3), .second, .val (.int p4), .val (.long bb), .second, .val (.long cc), .second, .val (.int (0 : Int32)), .val (.int (0 : Int32)), .val (.int (1 : Int32)), .val (.int (1 : Int32)), .unset, .unset, .unset] [(.long bb), (.long q1)])) _
          refine Own.go (fun t k => XS.lcmp X51.here hx rfl (hb hby at_77) rfl k) ?_
          show Own.Fin p e below (T51.setTop (mkF m 78 #[.val (.long q1), .second, .val (.long q2), .second, .val (.long q3), .second, .val (.int p4), .val (.long bb), .second, .val (.long cc), .second, .val (.int (0 : Int32)), .val (.int (0 : Int32)), .val (.int (1 : Int32)), .val (.int (1 : Int32)), .unset, .unset, .unset] [(.int (lcmpW q1 bb))])) _
          have hc78_52 : (lcmpW q1 bb) = (0 : Int32) := (lw_eq _ _).mpr hab.1
          refine Own.go (fun t k => XS.ifYes X51.here hx rfl (pc0 := 78) (pc' := 85) rfl (hb hby at_78) rfl ((if0 _ _).trans (teq hc78_52).1) (by decide) (by decide) k) ?_
          show Own.Fin p e below (T51.setTop (mkF m 85 #[.val (.long q1), .second, .val (.long q2), .second, .val (.long q3), .second, .val (.int p4), .val (.long bb), .second, .val (.long cc), .second, .val (.int (0 : Int32)), .val (.int (0 : Int32)), .val (.int (1 : Int32)), .val (.int (1 : Int32)), .unset, .unset, .unset] [])) _
          refine Own.go (fun t k => XS.iconst X51.here hx rfl (hb hby at_85) k) ?_
          show Own.Fin p e below (T51.setTop (mkF m 86 #[.val (.long q1), .second, .val (.long q2), .second, .val (.long q3), .second, .val (.int p4), .val (.long bb), .second, .val (.long cc), .second, .val (.int (0 : Int32)), .val (.int (0 : Int32)), .val (.int (1 : Int32)), .val (.int (1 : Int32)), .unset, .unset, .unset] [(.int (0 : Int32))])) _
          refine Own.go (fun t k => XS.istore X51.here hx rfl (hb hby at_86) rfl (l' := #[.val (.long q1), .second, .val (.long q2), .second, .val (.long q3), .second, .val (.int p4), .val (.long bb), .second, .val (.long cc), .second, .val (.int (0 : Int32)), .val (.int (0 : Int32)), .val (.int (1 : Int32)), .val (.int (1 : Int32)), .val (.int (0 : Int32)), .unset, .unset]) rfl k) ?_
          show Own.Fin p e below (T51.setTop (mkF m 88 #[.val (.long q1), .second, .val (.long q2), .second, .val (.long q3), .second, .val (.int p4), .val (.long bb), .second, .val (.long cc), .second, .val (.int (0 : Int32)), .val (.int (0 : Int32)), .val (.int (1 : Int32)), .val (.int (1 : Int32)), .val (.int (0 : Int32)), .unset, .unset] [])) _
          refine Own.go (fun t k => XS.iload X51.here hx rfl (hb hby at_88) rfl k) ?_
          show Own.Fin p e below (T51.setTop (mkF m 90 #[.val (.long q1), .second, .val (.long q2), .second, .val (.long q3), .second, .val (.int p4), .val (.long bb), .second, .val (.long cc), .second, .val (.int (0 : Int32)), .val (.int (0 : Int32)), .val (.int (1 : Int32)), .val (.int (1 : Int32)), .val (.int (0 : Int32)), .unset, .unset] [(.int (0 : Int32))])) _
          have hc90_53 : (0 : Int32) = (0 : Int32) := by decide
          refine Own.go (fun t k => XS.ifYes X51.here hx rfl (pc0 := 90) (pc' := 97) rfl (hb hby at_90) rfl ((if0 _ _).trans (teq hc90_53).1) (by decide) (by decide) k) ?_
          show Own.Fin p e below (T51.setTop (mkF m 97 #[.val (.long q1), .second, .val (.long q2), .second, .val (.long q3), .second, .val (.int p4), .val (.long bb), .second, .val (.long cc), .second, .val (.int (0 : Int32)), .val (.int (0 : Int32)), .val (.int (1 : Int32)), .val (.int (1 : Int32)), .val (.int (0 : Int32)), .unset, .unset] [])) _
          refine Own.go (fun t k => XS.iconst X51.here hx rfl (hb hby at_97) k) ?_
          show Own.Fin p e below (T51.setTop (mkF m 98 #[.val (.long q1), .second, .val (.long q2), .second, .val (.long q3), .second, .val (.int p4), .val (.long bb), .second, .val (.long cc), .second, .val (.int (0 : Int32)), .val (.int (0 : Int32)), .val (.int (1 : Int32)), .val (.int (1 : Int32)), .val (.int (0 : Int32)), .unset, .unset] [(.int (0 : Int32))])) _
          refine Own.go (fun t k => XS.iload X51.here hx rfl (hb hby at_98) rfl k) ?_
          show Own.Fin p e below (T51.setTop (mkF m 100 #[.val (.long q1), .second, .val (.long q2), .second, .val (.long q3), .second, .val (.int p4), .val (.long bb), .second, .val (.long cc), .second, .val (.int (0 : Int32)), .val (.int (0 : Int32)), .val (.int (1 : Int32)), .val (.int (1 : Int32)), .val (.int (0 : Int32)), .unset, .unset] [(.int (0 : Int32)), (.int (0 : Int32))])) _
          have hc100_54 : (0 : Int32) = (0 : Int32) := by decide
          refine Own.go (fun t k => XS.ifYes X51.here hx rfl (pc0 := 100) (pc' := 107) rfl (hb hby at_100) rfl ((if0 _ _).trans (teq hc100_54).1) (by decide) (by decide) k) ?_
          show Own.Fin p e below (T51.setTop (mkF m 107 #[.val (.long q1), .second, .val (.long q2), .second, .val (.long q3), .second, .val (.int p4), .val (.long bb), .second, .val (.long cc), .second, .val (.int (0 : Int32)), .val (.int (0 : Int32)), .val (.int (1 : Int32)), .val (.int (1 : Int32)), .val (.int (0 : Int32)), .unset, .unset] [(.int (0 : Int32))])) _
          refine Own.go (fun t k => XS.iconst X51.here hx rfl (hb hby at_107) k) ?_
          show Own.Fin p e below (T51.setTop (mkF m 108 #[.val (.long q1), .second, .val (.long q2), .second, .val (.long q3), .second, .val (.int p4), .val (.long bb), .second, .val (.long cc), .second, .val (.int (0 : Int32)), .val (.int (0 : Int32)), .val (.int (1 : Int32)), .val (.int (1 : Int32)), .val (.int (0 : Int32)), .unset, .unset] [(.int (0 : Int32)), (.int (0 : Int32))])) _
          refine Own.go (fun t k => XS.iadd X51.here hx rfl (hb hby at_108) rfl k) ?_
          show Own.Fin p e below (T51.setTop (mkF m 109 #[.val (.long q1), .second, .val (.long q2), .second, .val (.long q3), .second, .val (.int p4), .val (.long bb), .second, .val (.long cc), .second, .val (.int (0 : Int32)), .val (.int (0 : Int32)), .val (.int (1 : Int32)), .val (.int (1 : Int32)), .val (.int (0 : Int32)), .unset, .unset] [(.int ((0 : Int32) + (0 : Int32)))])) _
          refine Own.go (fun t k => XS.lloadN X51.here hx rfl (hb hby at_109) rfl k) ?_
          show Own.Fin p e below (T51.setTop (mkF m 110 #[.val (.long q1), .second, .val (.long q2), .second, .val (.long q3), .second, .val (.int p4), .val (.long bb), .second, .val (.long cc), .second, .val (.int (0 : Int32)), .val (.int (0 : Int32)), .val (.int (1 : Int32)), .val (.int (1 : Int32)), .val (.int (0 : Int32)), .unset, .unset] [(.long q1), (.int ((0 : Int32) + (0 : Int32)))])) _
          refine Own.go (fun t k => XS.lload X51.here hx rfl (hb hby at_110) rfl k) ?_
          show Own.Fin p e below (T51.setTop (mkF m 112 #[.val (.long q1), .second, .val (.long q2), .second, .val (.long q3), .second, .val (.int p4), .val (.long bb), .second, .val (.long cc), .second, .val (.int (0 : Int32)), .val (.int (0 : Int32)), .val (.int (1 : Int32)), .val (.int (1 : Int32)), .val (.int (0 : Int32)), .unset, .unset] [(.long bb), (.long q1), (.int ((0 : Int32) + (0 : Int32)))])) _
          refine Own.go (fun t k => XS.lcmp X51.here hx rfl (hb hby at_112) rfl k) ?_
          show Own.Fin p e below (T51.setTop (mkF m 113 #[.val (.long q1), .second, .val (.long q2), .second, .val (.long q3), .second, .val (.int p4), .val (.long bb), .second, .val (.long cc), .second, .val (.int (0 : Int32)), .val (.int (0 : Int32)), .val (.int (1 : Int32)), .val (.int (1 : Int32)), .val (.int (0 : Int32)), .unset, .unset] [(.int (lcmpW q1 bb)), (.int ((0 : Int32) + (0 : Int32)))])) _
          have hc113_55 : (lcmpW q1 bb) = (0 : Int32) := (lw_eq _ _).mpr hab.1
          refine Own.go (fun t k => XS.ifNo X51.here hx rfl (hb hby at_113) rfl ((if0 _ _).trans (teq hc113_55).2) k) ?_
          show Own.Fin p e below (T51.setTop (mkF m 116 #[.val (.long q1), .second, .val (.long q2), .second, .val (.long q3), .second, .val (.int p4), .val (.long bb), .second, .val (.long cc), .second, .val (.int (0 : Int32)), .val (.int (0 : Int32)), .val (.int (1 : Int32)), .val (.int (1 : Int32)), .val (.int (0 : Int32)), .unset, .unset] [(.int ((0 : Int32) + (0 : Int32)))])) _
          refine Own.go (fun t k => XS.iconst X51.here hx rfl (hb hby at_116) k) ?_
          show Own.Fin p e below (T51.setTop (mkF m 117 #[.val (.long q1), .second, .val (.long q2), .second, .val (.long q3), .second, .val (.int p4), .val (.long bb), .second, .val (.long cc), .second, .val (.int (0 : Int32)), .val (.int (0 : Int32)), .val (.int (1 : Int32)), .val (.int (1 : Int32)), .val (.int (0 : Int32)), .unset, .unset] [(.int (1 : Int32)), (.int ((0 : Int32) + (0 : Int32)))])) _
          refine Own.go (fun t k => XS.goto X51.here hx rfl (pc0 := 117) (pc' := 121) rfl (hb hby at_117) (by decide) (by decide) k) ?_
          show Own.Fin p e below (T51.setTop (mkF m 121 #[.val (.long q1), .second, .val (.long q2), .second, .val (.long q3), .second, .val (.int p4), .val (.long bb), .second, .val (.long cc), .second, .val (.int (0 : Int32)), .val (.int (0 : Int32)), .val (.int (1 : Int32)), .val (.int (1 : Int32)), .val (.int (0 : Int32)), .unset, .unset] [(.int (1 : Int32)), (.int ((0 : Int32) + (0 : Int32)))])) _
          refine Own.go (fun t k => XS.iadd X51.here hx rfl (hb hby at_121) rfl k) ?_
          show Own.Fin p e below (T51.setTop (mkF m 122 #[.val (.long q1), .second, .val (.long q2), .second, .val (.long q3), .second, .val (.int p4), .val (.long bb), .second, .val (.long cc), .second, .val (.int (0 : Int32)), .val (.int (0 : Int32)), .val (.int (1 : Int32)), .val (.int (1 : Int32)), .val (.int (0 : Int32)), .unset, .unset] [(.int (((0 : Int32) + (0 : Int32)) + (1 : Int32)))])) _
          refine Own.go (fun t k => XS.istore X51.here hx rfl (hb hby at_122) rfl (l' := #[.val (.long q1), .second, .val (.long q2), .second, .val (.long q3), .second, .val (.int p4), .val (.long bb), .second, .val (.long cc), .second, .val (.int (0 : Int32)), .val (.int (0 : Int32)), .val (.int (1 : Int32)), .val (.int (1 : Int32)), .val (.int (0 : Int32)), .val (.int (((0 : Int32) + (0 : Int32)) + (1 : Int32))), .unset]) rfl k) ?_
          show Own.Fin p e below (T51.setTop (mkF m 124 #[.val (.long q1), .second, .val (.long q2), .second, .val (.long q3), .second, .val (.int p4), .val (.long bb), .second, .val (.long cc), .second, .val (.int (0 : Int32)), .val (.int (0 : Int32)), .val (.int (1 : Int32)), .val (.int (1 : Int32)), .val (.int (0 : Int32)), .val (.int (((0 : Int32) + (0 : Int32)) + (1 : Int32))), .unset] [])) _
          refine Own.go (fun t k => XS.iload X51.here hx rfl (hb hby at_124) rfl k) ?_
          show Own.Fin p e below (T51.setTop (mkF m 126 #[.val (.long q1), .second, .val (.long q2), .second, .val (.long q3), .second, .val (.int p4), .val (.long bb), .second, .val (.long cc), .second, .val (.int (0 : Int32)), .val (.int (0 : Int32)), .val (.int (1 : Int32)), .val (.int (1 : Int32)), .val (.int (0 : Int32)), .val (.int (((0 : Int32) + (0 : Int32)) + (1 : Int32))), .unset] [(.int (0 : Int32))])) _
          have hc126_56 : (0 : Int32) = (0 : Int32) := by decide
          refine Own.go (fun t k => XS.ifYes X51.here hx rfl (pc0 := 126) (pc' := 139) rfl (hb hby at_126) rfl ((if0 _ _).trans (teq hc126_56).1) (by decide) (by decide) k) ?_
          show Own.Fin p e below (T51.setTop (mkF m 139 #[.val (.long q1), .second, .val (.long q2), .second, .val (.long q3), .second, .val (.int p4), .val (.long bb), .second, .val (.long cc), .second, .val (.int (0 : Int32)), .val (.int (0 : Int32)), .val (.int (1 : Int32)), .val (.int (1 : Int32)), .val (.int (0 : Int32)), .val (.int (((0 : Int32) + (0 : Int32)) + (1 : Int32))), .unset] [])) _
          refine Own.go (fun t k => XS.iconst X51.here hx rfl (hb hby at_139) k) ?_
          show Own.Fin p e below (T51.setTop (mkF m 140 #[.val (.long q1), .second, .val (.long q2), .second, .val (.long q3), .second, .val (.int p4), .val (.long bb), .second, .val (.long cc), .second, .val (.int (0 : Int32)), .val (.int (0 : Int32)), .val (.int (1 : Int32)), .val (.int (1 : Int32)), .val (.int (0 : Int32)), .val (.int (((0 : Int32) + (0 : Int32)) + (1 : Int32))), .unset] [(.int (1 : Int32))])) _
          refine Own.go (fun t k => XS.goto X51.here hx rfl (pc0 := 140) (pc' := 144) rfl (hb hby at_140) (by decide) (by decide) k) ?_
          show Own.Fin p e below (T51.setTop (mkF m 144 #[.val (.long q1), .second, .val (.long q2), .second, .val (.long q3), .second, .val (.int p4), .val (.long bb), .second, .val (.long cc), .second, .val (.int (0 : Int32)), .val (.int (0 : Int32)), .val (.int (1 : Int32)), .val (.int (1 : Int32)), .val (.int (0 : Int32)), .val (.int (((0 : Int32) + (0 : Int32)) + (1 : Int32))), .unset] [(.int (1 : Int32))])) _
          refine Own.go (fun t k => XS.istore X51.here hx rfl (hb hby at_144) rfl (l' := #[.val (.long q1), .second, .val (.long q2), .second, .val (.long q3), .second, .val (.int p4), .val (.long bb), .second, .val (.long cc), .second, .val (.int (0 : Int32)), .val (.int (0 : Int32)), .val (.int (1 : Int32)), .val (.int (1 : Int32)), .val (.int (0 : Int32)), .val (.int (((0 : Int32) + (0 : Int32)) + (1 : Int32))), .val (.int (1 : Int32))]) rfl k) ?_
          show Own.Fin p e below (T51.setTop (mkF m 146 #[.val (.long q1), .second, .val (.long q2), .second, .val (.long q3), .second, .val (.int p4), .val (.long bb), .second, .val (.long cc), .second, .val (.int (0 : Int32)), .val (.int (0 : Int32)), .val (.int (1 : Int32)), .val (.int (1 : Int32)), .val (.int (0 : Int32)), .val (.int (((0 : Int32) + (0 : Int32)) + (1 : Int32))), .val (.int (1 : Int32))] [])) _
          refine Own.go (fun t k => XS.iload X51.here hx rfl (hb hby at_146) rfl k) ?_
          show Own.Fin p e below (T51.setTop (mkF m 148 #[.val (.long q1), .second, .val (.long q2), .second, .val (.long q3), .second, .val (.int p4), .val (.long bb), .second, .val (.long cc), .second, .val (.int (0 : Int32)), .val (.int (0 : Int32)), .val (.int (1 : Int32)), .val (.int (1 : Int32)), .val (.int (0 : Int32)), .val (.int (((0 : Int32) + (0 : Int32)) + (1 : Int32))), .val (.int (1 : Int32))] [(.int (0 : Int32))])) _
          refine Own.go (fun t k => XS.iload X51.here hx rfl (hb hby at_148) rfl k) ?_
          show Own.Fin p e below (T51.setTop (mkF m 150 #[.val (.long q1), .second, .val (.long q2), .second, .val (.long q3), .second, .val (.int p4), .val (.long bb), .second, .val (.long cc), .second, .val (.int (0 : Int32)), .val (.int (0 : Int32)), .val (.int (1 : Int32)), .val (.int (1 : Int32)), .val (.int (0 : Int32)), .val (.int (((0 : Int32) + (0 : Int32)) + (1 : Int32))), .val (.int (1 : Int32))] [(.int (0 : Int32)), (.int (0 : Int32))])) _
          have hc150_57 : (0 : Int32) = (0 : Int32) := by decide
          refine Own.go (fun t k => XS.icmpNo X51.here hx rfl (hb hby at_150) rfl (teq hc150_57).2 k) ?_
          show Own.Fin p e below (T51.setTop (mkF m 153 #[.val (.long q1), .second, .val (.long q2), .second, .val (.long q3), .second, .val (.int p4), .val (.long bb), .second, .val (.long cc), .second, .val (.int (0 : Int32)), .val (.int (0 : Int32)), .val (.int (1 : Int32)), .val (.int (1 : Int32)), .val (.int (0 : Int32)), .val (.int (((0 : Int32) + (0 : Int32)) + (1 : Int32))), .val (.int (1 : Int32))] [])) _
          refine Own.go (fun t k => XS.iload X51.here hx rfl (hb hby at_153) rfl k) ?_
          show Own.Fin p e below (T51.setTop (mkF m 155 #[.val (.long q1), .second, .val (.long q2), .second, .val (.long q3), .second, .val (.int p4), .val (.long bb), .second, .val (.long cc), .second, .val (.int (0 : Int32)), .val (.int (0 : Int32)), .val (.int (1 : Int32)), .val (.int (1 : Int32)), .val (.int (0 : Int32)), .val (.int (((0 : Int32) + (0 : Int32)) + (1 : Int32))), .val (.int (1 : Int32))] [(.int (((0 : Int32) + (0 : Int32)) + (1 : Int32)))])) _
          refine Own.go (fun t k => XS.iconst X51.here hx rfl (hb hby at_155) k) ?_
          show Own.Fin p e below (T51.setTop (mkF m 156 #[.val (.long q1), .second, .val (.long q2), .second, .val (.long q3), .second, .val (.int p4), .val (.long bb), .second, .val (.long cc), .second, .val (.int (0 : Int32)), .val (.int (0 : Int32)), .val (.int (1 : Int32)), .val (.int (1 : Int32)), .val (.int (0 : Int32)), .val (.int (((0 : Int32) + (0 : Int32)) + (1 : Int32))), .val (.int (1 : Int32))] [(.int (1 : Int32)), (.int (((0 : Int32) + (0 : Int32)) + (1 : Int32)))])) _
          have hc156_58 : (((0 : Int32) + (0 : Int32)) + (1 : Int32)) = (1 : Int32) := by decide
          refine Own.go (fun t k => XS.icmpNo X51.here hx rfl (hb hby at_156) rfl (teq hc156_58).2 k) ?_
          show Own.Fin p e below (T51.setTop (mkF m 159 #[.val (.long q1), .second, .val (.long q2), .second, .val (.long q3), .second, .val (.int p4), .val (.long bb), .second, .val (.long cc), .second, .val (.int (0 : Int32)), .val (.int (0 : Int32)), .val (.int (1 : Int32)), .val (.int (1 : Int32)), .val (.int (0 : Int32)), .val (.int (((0 : Int32) + (0 : Int32)) + (1 : Int32))), .val (.int (1 : Int32))] [])) _
          refine Own.go (fun t k => XS.iload X51.here hx rfl (hb hby at_159) rfl k) ?_
          show Own.Fin p e below (T51.setTop (mkF m 161 #[.val (.long q1), .second, .val (.long q2), .second, .val (.long q3), .second, .val (.int p4), .val (.long bb), .second, .val (.long cc), .second, .val (.int (0 : Int32)), .val (.int (0 : Int32)), .val (.int (1 : Int32)), .val (.int (1 : Int32)), .val (.int (0 : Int32)), .val (.int (((0 : Int32) + (0 : Int32)) + (1 : Int32))), .val (.int (1 : Int32))] [(.int (1 : Int32))])) _
          have hc161_59 : ¬ ((1 : Int32) = (0 : Int32)) := by decide
          refine Own.go (fun t k => XS.ifNo X51.here hx rfl (hb hby at_161) rfl ((if0 _ _).trans (feq hc161_59).1) k) ?_
          show Own.Fin p e below (T51.setTop (mkF m 164 #[.val (.long q1), .second, .val (.long q2), .second, .val (.long q3), .second, .val (.int p4), .val (.long bb), .second, .val (.long cc), .second, .val (.int (0 : Int32)), .val (.int (0 : Int32)), .val (.int (1 : Int32)), .val (.int (1 : Int32)), .val (.int (0 : Int32)), .val (.int (((0 : Int32) + (0 : Int32)) + (1 : Int32))), .val (.int (1 : Int32))] [])) _
          refine Own.go (fun t k => XS.iconst X51.here hx rfl (hb hby at_164) k) ?_
          show Own.Fin p e below (T51.setTop (mkF m 165 #[.val (.long q1), .second, .val (.long q2), .second, .val (.long q3), .second, .val (.int p4), .val (.long bb), .second, .val (.long cc), .second, .val (.int (0 : Int32)), .val (.int (0 : Int32)), .val (.int (1 : Int32)), .val (.int (1 : Int32)), .val (.int (0 : Int32)), .val (.int (((0 : Int32) + (0 : Int32)) + (1 : Int32))), .val (.int (1 : Int32))] [(.int (1 : Int32))])) _
          refine Own.go (fun t k => XS.goto X51.here hx rfl (pc0 := 165) (pc' := 169) rfl (hb hby at_165) (by decide) (by decide) k) ?_
          show Own.Fin p e below (T51.setTop (mkF m 169 #[.val (.long q1), .second, .val (.long q2), .second, .val (.long q3), .second, .val (.int p4), .val (.long bb), .second, .val (.long cc), .second, .val (.int (0 : Int32)), .val (.int (0 : Int32)), .val (.int (1 : Int32)), .val (.int (1 : Int32)), .val (.int (0 : Int32)), .val (.int (((0 : Int32) + (0 : Int32)) + (1 : Int32))), .val (.int (1 : Int32))] [(.int (1 : Int32))])) _
          refine Own.retN X51 hx Bd.notSynchronized (t := .boolean) Bd.returns (by simp) (hb hby at_169) (by decide) (by decide) ?_
          exact ⟨rfl, N51⟩
        · skip
          show Own.Fin p e below (s₁.setTop (mkF m 30 #[.val (.long q1), .second, .val (.long q2), .second, .val (.long q3), .second, .val (.int p4), .val (.long bb), .second, .val (.long cc), .second, .unset, .unset, .unset, .unset, .unset, .unset, .unset] [])) _
          refine Own.go (fun t k => XS.lloadN X0.here hx rfl (hb hby at_30) rfl k) ?_
          show Own.Fin p e below (s₁.setTop (mkF m 31 #[.val (.long q1), .second, .val (.long q2), .second, .val (.long q3), .second, .val (.int p4), .val (.long bb), .second, .val (.long cc), .second, .unset, .unset, .unset, .unset, .unset, .unset, .unset] [(.long q1)])) _
          refine Own.go (fun t k => XS.lload X0.here hx rfl (hb hby at_31) rfl k) ?_
          show Own.Fin p e below (s₁.setTop (mkF m 33 #[.val (.long q1), .second, .val (.long q2), .second, .val (.long q3), .second, .val (.int p4), .val (.long bb), .second, .val (.long cc), .second, .unset, .unset, .unset, .unset, .unset, .unset, .unset] [(.long bb), (.long q1)])) _
          refine Own.cS X0 hx hZ hown (hw _ (List.mem_of_getElem? (i := 0) rfl)) (hw _ (List.mem_of_getElem? (i := 1) rfl)) (hw _ (List.mem_of_getElem? (i := 2) rfl)) (hw _ (List.mem_of_getElem? (i := 3) rfl)) (by decide) (rm1 l Z a0 hw [] q1 bb h0 n0 Z0 ) (by decide) (W := 0) (by decide) (argsL := [(.long q1), (.long bb)]) (rest := []) (by rw [hml]; rfl) (lenOf pd_0 rfl) rfl (Nat.le_of_eq rfl) (hb hby at_33) e0 (by decide) (by decide) ?_
          intro T61 L61 v61 X61 hQ61
          obtain ⟨rfl, N61q, e61⟩ := hQ61
          have N61 := Fr.app N0 N61q
          rw [own_co0 hab.2.2]
          show Own.Fin p e below (T61.setTop (mkF m 36 #[.val (.long q1), .second, .val (.long q2), .second, .val (.long q3), .second, .val (.int p4), .val (.long bb), .second, .val (.long cc), .second, .unset, .unset, .unset, .unset, .unset, .unset, .unset] [(.int (0 : Int32))])) _
          refine Own.go (fun t k => XS.istore X61.here hx rfl (hb hby at_36) rfl (l' := #[.val (.long q1), .second, .val (.long q2), .second, .val (.long q3), .second, .val (.int p4), .val (.long bb), .second, .val (.long cc), .second, .val (.int (0 : Int32)), .unset, .unset, .unset, .unset, .unset, .unset]) rfl k) ?_
          show Own.Fin p e below (T61.setTop (mkF m 38 #[.val (.long q1), .second, .val (.long q2), .second, .val (.long q3), .second, .val (.int p4), .val (.long bb), .second, .val (.long cc), .second, .val (.int (0 : Int32)), .unset, .unset, .unset, .unset, .unset, .unset] [])) _
          refine Own.go (fun t k => XS.lload X61.here hx rfl (hb hby at_38) rfl k) ?_
          show Own.Fin p e below (T61.setTop (mkF m 40 #[.val (.long q1), .second, .val (.long q2), .second, .val (.long q3), .second, .val (.int p4), .val (.long bb), .second, .val (.long cc), .second, .val (.int (0 : Int32)), .unset, .unset, .unset, .unset, .unset, .unset] [(.long bb)])) _
          refine Own.go (fun t k => XS.lloadN X61.here hx rfl (hb hby at_40) rfl k) ?_
          show Own.Fin p e below (T61.setTop (mkF m 41 #[.val (.long q1), .second, .val (.long q2), .second, .val (.long q3), .second, .val (.int p4), .val (.long bb), .second, .val (.long cc), .second, .val (.int (0 : Int32)), .unset, .unset, .unset, .unset, .unset, .unset] [(.long q1), (.long bb)])) _
          refine Own.cS X61 hx hZ hown (hw _ (List.mem_of_getElem? (i := 0) rfl)) (hw _ (List.mem_of_getElem? (i := 1) rfl)) (hw _ (List.mem_of_getElem? (i := 2) rfl)) (hw _ (List.mem_of_getElem? (i := 3) rfl)) (by decide) (rm1 l Z a0 hw [] bb q1 h0 n0 Z0 ) (by decide) (W := 0) (by decide) (argsL := [(.long bb), (.long q1)]) (rest := []) (by rw [hml]; rfl) (lenOf pd_0 rfl) rfl (Nat.le_of_eq rfl) (hb hby at_41) e61 (by decide) (by decide) ?_
          intro T62 L62 v62 X62 hQ62
          obtain ⟨rfl, N62q, e62⟩ := hQ62
          have N62 := Fr.app N61 N62q
          rw [own_co0 hab.2.1]
          show Own.Fin p e below (T62.setTop (mkF m 44 #[.val (.long q1), .second, .val (.long q2), .second, .val (.long q3), .second, .val (.int p4), .val (.long bb), .second, .val (.long cc), .second, .val (.int (0 : Int32)), .unset, .unset, .unset, .unset, .unset, .unset] [(.int (0 : Int32))])) _
          refine Own.go (fun t k => XS.istore X62.here hx rfl (hb hby at_44) rfl (l' := #[.val (.long q1), .second, .val (.long q2), .second, .val (.long q3), .second, .val (.int p4), .val (.long bb), .second, .val (.long cc), .second, .val (.int (0 : Int32)), .val (.int (0 : Int32)), .unset, .unset, .unset, .unset, .unset]) rfl k) ?_
          show Own.Fin p e below (T62.setTop (mkF m 46 #[.val (.long q1), .second, .val (.long q2), .second, .val (.long q3), .second, .val (.int p4), .val (.long bb), .second, .val (.long cc), .second, .val (.int (0 : Int32)), .val (.int (0 : Int32)), .unset, .unset, .unset, .unset, .unset] [])) _
          refine Own.go (fun t k => XS.lload X62.here hx rfl (hb hby at_46) rfl k) ?_
          show Own.Fin p e below (T62.setTop (mkF m 48 #[.val (.long q1), .second, .val (.long q2), .second, .val (.long q3), .second, .val (.int p4), .val (.long bb), .second, .val (.long cc), .second, .val (.int (0 : Int32)), .val (.int (0 : Int32)), .unset, .unset, .unset, .unset, .unset] [(.long bb)])) _
          refine Own.go (fun t k => XS.lload X62.here hx rfl (hb hby at_48) rfl k) ?_
          show Own.Fin p e below (T62.setTop (mkF m 50 #[.val (.long q1), .second, .val (.long q2), .second, .val (.long q3), .second, .val (.int p4), .val (.long bb), .second, .val (.long cc), .second, .val (.int (0 : Int32)), .val (.int (0 : Int32)), .unset, .unset, .unset, .unset, .unset] [(.long cc), (.long bb)])) _
          refine Own.cS X62 hx hZ hown (hw _ (List.mem_of_getElem? (i := 0) rfl)) (hw _ (List.mem_of_getElem? (i := 1) rfl)) (hw _ (List.mem_of_getElem? (i := 2) rfl)) (hw _ (List.mem_of_getElem? (i := 3) rfl)) (by decide) (rm1 l Z a0 hw [] bb cc h0 n0 Z0 ) (by decide) (W := 0) (by decide) (argsL := [(.long bb), (.long cc)]) (rest := []) (by rw [hml]; rfl) (lenOf pd_0 rfl) rfl (Nat.le_of_eq rfl) (hb hby at_50) e62 (by decide) (by decide) ?_
          intro T63 L63 v63 X63 hQ63
          obtain ⟨rfl, N63q, e63⟩ := hQ63
          have N63 := Fr.app N62 N63q
          rw [own_co1 hbc]
          show Own.Fin p e below (T63.setTop (mkF m 53 #[.val (.long q1), .second, .val (.long q2), .second, .val (.long q3), .second, .val (.int p4), .val (.long bb), .second, .val (.long cc), .second, .val (.int (0 : Int32)), .val (.int (0 : Int32)), .unset, .unset, .unset, .unset, .unset] [(.int (1 : Int32))])) _
          refine Own.go (fun t k => XS.istore X63.here hx rfl (hb hby at_53) rfl (l' := #[.val (.long q1), .second, .val (.long q2), .second, .val (.long q3), .second, .val (.int p4), .val (.long bb), .second, .val (.long cc), .second, .val (.int (0 : Int32)), .val (.int (0 : Int32)), .val (.int (1 : Int32)), .unset, .unset, .unset, .unset]) rfl k) ?_
          show Own.Fin p e below (T63.setTop (mkF m 55 #[.val (.long q1), .second, .val (.long q2), .second, .val (.long q3), .second, .val (.int p4), .val (.long bb), .second, .val (.long cc), .second, .val (.int (0 : Int32)), .val (.int (0 : Int32)), .val (.int (1 : Int32)), .unset, .unset, .unset, .unset] [])) _
          refine Own.go (fun t k => XS.lloadN X63.here hx rfl (hb hby at_55) rfl k) ?_
          show Own.Fin p e below (T63.setTop (mkF m 56 #[.val (.long q1), .second, .val (.long q2), .second, .val (.long q3), .second, .val (.int p4), .val (.long bb), .second, .val (.long cc), .second, .val (.int (0 : Int32)), .val (.int (0 : Int32)), .val (.int (1 : Int32)), .unset, .unset, .unset, .unset] [(.long q1)])) _
          refine Own.go (fun t k => XS.lload X63.here hx rfl (hb hby at_56) rfl k) ?_
          show Own.Fin p e below (T63.setTop (mkF m 58 #[.val (.long q1), .second, .val (.long q2), .second, .val (.long q3), .second, .val (.int p4), .val (.long bb), .second, .val (.long cc), .second, .val (.int (0 : Int32)), .val (.int (0 : Int32)), .val (.int (1 : Int32)), .unset, .unset, .unset, .unset] [(.long cc), (.long q1)])) _
          refine Own.cS X63 hx hZ hown (hw _ (List.mem_of_getElem? (i := 0) rfl)) (hw _ (List.mem_of_getElem? (i := 1) rfl)) (hw _ (List.mem_of_getElem? (i := 2) rfl)) (hw _ (List.mem_of_getElem? (i := 3) rfl)) (by decide) (rm1 l Z a0 hw [] q1 cc h0 n0 Z0 ) (by decide) (W := 0) (by decide) (argsL := [(.long q1), (.long cc)]) (rest := []) (by rw [hml]; rfl) (lenOf pd_0 rfl) rfl (Nat.le_of_eq rfl) (hb hby at_58) e63 (by decide) (by decide) ?_
          intro T64 L64 v64 X64 hQ64
          obtain ⟨rfl, N64q, e64⟩ := hQ64
          have N64 := Fr.app N63 N64q
          rw [own_co0 hac]
          show Own.Fin p e below (T64.setTop (mkF m 61 #[.val (.long q1), .second, .val (.long q2), .second, .val (.long q3), .second, .val (.int p4), .val (.long bb), .second, .val (.long cc), .second, .val (.int (0 : Int32)), .val (.int (0 : Int32)), .val (.int (1 : Int32)), .unset, .unset, .unset, .unset] [(.int (0 : Int32))])) _
          refine Own.go (fun t k => XS.istore X64.here hx rfl (hb hby at_61) rfl (l' := #[.val (.long q1), .second, .val (.long q2), .second, .val (.long q3), .second, .val (.int p4), .val (.long bb), .second, .val (.long cc), .second, .val (.int (0 : Int32)), .val (.int (0 : Int32)), .val (.int (1 : Int32)), .val (.int (0 : Int32)), .unset, .unset, .unset]) rfl k) ?_
          show Own.Fin p e below (T64.setTop (mkF m 63 #[.val (.long q1), .second, .val (.long q2), .second, .val (.long q3), .second, .val (.int p4), .val (.long bb), .second, .val (.long cc), .second, .val (.int (0 : Int32)), .val (.int (0 : Int32)), .val (.int (1 : Int32)), .val (.int (0 : Int32)), .unset, .unset, .unset] [])) _
          refine Own.go (fun t k => XS.lloadN X64.here hx rfl (hb hby at_63) rfl k) ?_
          show Own.Fin p e below (T64.setTop (mkF m 64 #[.val (.long q1), .second, .val (.long q2), .second, .val (.long q3), .second, .val (.int p4), .val (.long bb), .second, .val (.long cc), .second, .val (.int (0 : Int32)), .val (.int (0 : Int32)), .val (.int (1 : Int32)), .val (.int (0 : Int32)), .unset, .unset, .unset] [(.long q1)])) _
          refine Own.go (fun t k => XS.lload X64.here hx rfl (hb hby at_64) rfl k) ?_
          show Own.Fin p e below (T64.setTop (mkF m 66 #[.val (.long q1), .second, .val (.long q2), .second, .val (.long q3), .second, .val (.int p4), .val (.long bb), .second, .val (.long cc), .second, .val (.int (0 : Int32)), .val (.int (0 : Int32)), .val (.int (1 : Int32)), .val (.int (0 : Int32)), .unset, .unset, .unset] [(.long bb), (.long q1)])) _
          refine Own.cS X64 hx hZ hown (hw _ (List.mem_of_getElem? (i := 4) rfl)) (hw _ (List.mem_of_getElem? (i := 5) rfl)) (hw _ (List.mem_of_getElem? (i := 6) rfl)) (hw _ (List.mem_of_getElem? (i := 7) rfl)) (by decide) (rm2 l Z a0 hw [] q1 bb h0 n0 Z0 ) (by decide) (W := 0) (by decide) (argsL := [(.long q1), (.long bb)]) (rest := []) (by rw [hml]; rfl) (lenOf pd_1 rfl) rfl (Nat.le_of_eq rfl) (hb hby at_66) e64 (by decide) (by decide) ?_
          intro T65 L65 v65 X65 hQ65
          obtain ⟨rfl, N65q, e65⟩ := hQ65
          have N65 := Fr.app N64 N65q
          rw [own_mx0 hab.2.1]
          show Own.Fin p e below (T65.setTop (mkF m 69 #[.val (.long q1), .second, .val (.long q2), .second, .val (.long q3), .second, .val (.int p4), .val (.long bb), .second, .val (.long cc), .second, .val (.int (0 : Int32)), .val (.int (0 : Int32)), .val (.int (1 : Int32)), .val (.int (0 : Int32)), .unset, .unset, .unset] [(.long q1)])) _
          refine Own.go (fun t k => XS.lloadN X65.here hx rfl (hb hby at_69) rfl k) ?_
          show Own.Fin p e below (T65.setTop (mkF m 70 #[.val (.long q1), .second, .val (.long q2), .second, .val (.long q3), .second, .val (.int p4), .val (.long bb), .second, .val (.long cc), .second, .val (.int (0 : Int32)), .val (.int (0 : Int32)), .val (.int (1 : Int32)), .val (.int (0 : Int32)), .unset, .unset, .unset] [(.long q1), (.long q1)])) _
          refine Own.go (fun t k => XS.lcmp X65.here hx rfl (hb hby at_70) rfl k) ?_
          show Own.Fin p e below (T65.setTop (mkF m 71 #[.val (.long q1), .second, .val (.long q2), .second, .val (.long q3), .second, .val (.int p4), .val (.long bb), .second, .val (.long cc), .second, .val (.int (0 : Int32)), .val (.int (0 : Int32)), .val (.int (1 : Int32)), .val (.int (0 : Int32)), .unset, .unset, .unset] [(.int (lcmpW q1 q1))])) _
          have hc71_65 : (lcmpW q1 q1) = (0 : Int32) := (lw_eq _ _).mpr rfl
          refine Own.go (fun t k => XS.ifNo X65.here hx rfl (hb hby at_71) rfl ((if0 _ _).trans (teq hc71_65).2) k) ?_
          show Own.Fin p e below (T65.setTop (mkF m 74 #[.val (.long q1), .second, .val (.long q2), .second, .val (.long q3), .second, .val (.int p4), .val (.long bb), .second, .val (.long cc), .second, .val (.int (0 : Int32)), .val (.int (0 : Int32)), .val (.int (1 : Int32)), .val (.int (0 : Int32)), .unset, .unset, .unset] [])) _
          refine Own.go (fun t k => XS.lloadN X65.here hx rfl (hb hby at_74) rfl k) ?_
          show Own.Fin p e below (T65.setTop (mkF m 75 #[.val (.long q1), .second, .val (.long q2), .second, .val (.long q3), .second, .val (.int p4), .val (.long bb), .second, .val (.long cc), .second, .val (.int (0 : Int32)), .val (.int (0 : Int32)), .val (.int (1 : Int32)), .val (.int (0 : Int32)), .unset, .unset, .unset] [(.long q1)])) _
          refine Own.go (fun t k => XS.lload X65.here hx rfl (hb hby at_75) rfl k) ?_
          show Own.Fin p e below (T65.setTop (mkF m 77 #[.val (.long q1), .second, .val (.long q2), .second, .val (.long q3), .second, .val (.int p4), .val (.long bb), .second, .val (.long cc), .second, .val (.int (0 : Int32)), .val (.int (0 : Int32)), .val (.int (1 : Int32)), .val (.int (0 : Int32)), .unset, .unset, .unset] [(.long bb), (.long q1)])) _
          refine Own.go (fun t k => XS.lcmp X65.here hx rfl (hb hby at_77) rfl k) ?_
          show Own.Fin p e below (T65.setTop (mkF m 78 #[.val (.long q1), .second, .val (.long q2), .second, .val (.long q3), .second, .val (.int p4), .val (.long bb), .second, .val (.long cc), .second, .val (.int (0 : Int32)), .val (.int (0 : Int32)), .val (.int (1 : Int32)), .val (.int (0 : Int32)), .unset, .unset, .unset] [(.int (lcmpW q1 bb))])) _
          have hc78_66 : (lcmpW q1 bb) = (0 : Int32) := (lw_eq _ _).mpr hab.1
          refine Own.go (fun t k => XS.ifYes X65.here hx rfl (pc0 := 78) (pc' := 85) rfl (hb hby at_78) rfl ((if0 _ _).trans (teq hc78_66).1) (by decide) (by decide) k) ?_
          show Own.Fin p e below (T65.setTop (mkF m 85 #[.val (.long q1), .second, .val (.long q2), .second, .val (.long q3), .second, .val (.int p4), .val (.long bb), .second, .val (.long cc), .second, .val (.int (0 : Int32)), .val (.int (0 : Int32)), .val (.int (1 : Int32)), .val (.int (0 : Int32)), .unset, .unset, .unset] [])) _
          refine Own.go (fun t k => XS.iconst X65.here hx rfl (hb hby at_85) k) ?_
          show Own.Fin p e below (T65.setTop (mkF m 86 #[.val (.long q1), .second, .val (.long q2), .second, .val (.long q3), .second, .val (.int p4), .val (.long bb), .second, .val (.long cc), .second, .val (.int (0 : Int32)), .val (.int (0 : Int32)), .val (.int (1 : Int32)), .val (.int (0 : Int32)), .unset, .unset, .unset] [(.int (0 : Int32))])) _
          refine Own.go (fun t k => XS.istore X65.here hx rfl (hb hby at_86) rfl (l' := #[.val (.long q1), .second, .val (.long q2), .second, .val (.long q3), .second, .val (.int p4), .val (.long bb), .second, .val (.long cc), .second, .val (.int (0 : Int32)), .val (.int (0 : Int32)), .val (.int (1 : Int32)), .val (.int (0 : Int32)), .val (.int (0 : Int32)), .unset, .unset]) rfl k) ?_
          show Own.Fin p e below (T65.setTop (mkF m 88 #[.val (.long q1), .second, .val (.long q2), .second, .val (.long q3), .second, .val (.int p4), .val (.long bb), .second, .val (.long cc), .second, .val (.int (0 : Int32)), .val (.int (0 : Int32)), .val (.int (1 : Int32)), .val (.int (0 : Int32)), .val (.int (0 : Int32)), .unset, .unset] [])) _
          refine Own.go (fun t k => XS.iload X65.here hx rfl (hb hby at_88) rfl k) ?_
          show Own.Fin p e below (T65.setTop (mkF m 90 #[.val (.long q1), .second, .val (.long q2), .second, .val (.long q3), .second, .val (.int p4), .val (.long bb), .second, .val (.long cc), .second, .val (.int (0 : Int32)), .val (.int (0 : Int32)), .val (.int (1 : Int32)), .val (.int (0 : Int32)), .val (.int (0 : Int32)), .unset, .unset] [(.int (0 : Int32))])) _
          have hc90_67 : (0 : Int32) = (0 : Int32) := by decide
          refine Own.go (fun t k => XS.ifYes X65.here hx rfl (pc0 := 90) (pc' := 97) rfl (hb hby at_90) rfl ((if0 _ _).trans (teq hc90_67).1) (by decide) (by decide) k) ?_
          show Own.Fin p e below (T65.setTop (mkF m 97 #[.val (.long q1), .second, .val (.long q2), .second, .val (.long q3), .second, .val (.int p4), .val (.long bb), .second, .val (.long cc), .second, .val (.int (0 : Int32)), .val (.int (0 : Int32)), .val (.int (1 : Int32)), .val (.int (0 : Int32)), .val (.int (0 : Int32)), .unset, .unset] [])) _
          refine Own.go (fun t k => XS.iconst X65.here hx rfl (hb hby at_97) k) ?_
          show Own.Fin p e below (T65.setTop (mkF m 98 #[.val (.long q1), .second, .val (.long q2), .second, .val (.long q3), .second, .val (.int p4), .val (.long bb), .second, .val (.long cc), .second, .val (.int (0 : Int32)), .val (.int (0 : Int32)), .val (.int (1 : Int32)), .val (.int (0 : Int32)), .val (.int (0 : Int32)), .unset, .unset] [(.int (0 : Int32))])) _
          refine Own.go (fun t k => XS.iload X65.here hx rfl (hb hby at_98) rfl k) ?_
          show Own.Fin p e below (T65.setTop (mkF m 100 #[.val (.long q1), .second, .val (.long q2), .second, .val (.long q3), .second, .val (.int p4), .val (.long bb), .second, .val (.long cc), .second, .val (.int (0 : Int32)), .val (.int (0 : Int32)), .val (.int (1 : Int32)), .val (.int (0 : Int32)), .val (.int (0 : Int32)), .unset, .unset] [(.int (0 : Int32)), (.int (0 : Int32))])) _
          have hc100_68 : (0 : Int32) = (0 : Int32) := by decide
          refine Own.go (fun t k => XS.ifYes X65.here hx rfl (pc0 := 100) (pc' := 107) rfl (hb hby at_100) rfl ((if0 _ _).trans (teq hc100_68).1) (by decide) (by decide) k) ?_
          show Own.Fin p e below (T65.setTop (mkF m 107 #[.val (.long q1), .second, .val (.long q2), .second, .val (.long q3), .second, .val (.int p4), .val (.long bb), .second, .val (.long cc), .second, .val (.int (0 : Int32)), .val (.int (0 : Int32)), .val (.int (1 : Int32)), .val (.int (0 : Int32)), .val (.int (0 : Int32)), .unset, .unset] [(.int (0 : Int32))])) _
          refine Own.go (fun t k => XS.iconst X65.here hx rfl (hb hby at_107) k) ?_
          show Own.Fin p e below (T65.setTop (mkF m 108 #[.val (.long q1), .second, .val (.long q2), .second, .val (.long q3), .second, .val (.int p4), .val (.long bb), .second, .val (.long cc), .second, .val (.int (0 : Int32)), .val (.int (0 : Int32)), .val (.int (1 : Int32)), .val (.int (0 : Int32)), .val (.int (0 : Int32)), .unset, .unset] [(.int (0 : Int32)), (.int (0 : Int32))])) _
          refine Own.go (fun t k => XS.iadd X65.here hx rfl (hb hby at_108) rfl k) ?_
          show Own.Fin p e below (T65.setTop (mkF m 109 #[.val (.long q1), .second, .val (.long q2), .second, .val (.long q3), .second, .val (.int p4), .val (.long bb), .second, .val (.long cc), .second, .val (.int (0 : Int32)), .val (.int (0 : Int32)), .val (.int (1 : Int32)), .val (.int (0 : Int32)), .val (.int (0 : Int32)), .unset, .unset] [(.int ((0 : Int32) + (0 : Int32)))])) _
          refine Own.go (fun t k => XS.lloadN X65.here hx rfl (hb hby at_109) rfl k) ?_
          show Own.Fin p e below (T65.setTop (mkF m 110 #[.val (.long q1), .second, .val (.long q2), .second, .val (.long q3), .second, .val (.int p4), .val (.long bb), .second, .val (.long cc), .second, .val (.int (0 : Int32)), .val (.int (0 : Int32)), .val (.int (1 : Int32)), .val (.int (0 : Int32)), .val (.int (0 : Int32)), .unset, .unset] [(.long q1), (.int ((0 : Int32) + (0 : Int32)))])) _
          refine Own.go (fun t k => XS.lload X65.here hx rfl (hb hby at_110) rfl k) ?_
          show Own.Fin p e below (T65.setTop (mkF m 112 #[.val (.long q1), .second, .val (.long q2), .second, .val (.long q3), .second, .val (.int p4), .val (.long bb), .second, .val (.long cc), .second, .val (.int (0 : Int32)), .val (.int (0 : Int32)), .val (.int (1 : Int32)), .val (.int (0 : Int32)), .val (.int (0 : Int32)), .unset, .unset] [(.long bb), (.long q1), (.int ((0 : Int32) + (0 : Int32)))])) _
          refine Own.go (fun t k => XS.lcmp X65.here hx rfl (hb hby at_112) rfl k) ?_
          show Own.Fin p e below (T65.setTop (mkF m 113 #[.val (.long q1), .second, .val (.long q2), .second, .val (.long q3), .second, .val (.int p4), .val (.long bb), .second, .val (.long cc), .second, .val (.int (0 : Int32)), .val (.int (0 : Int32)), .val (.int (1 : Int32)), .val (.int (0 : Int32)), .val (.int (0 : Int32)), .unset, .unset] [(.int (lcmpW q1 bb)), (.int ((0 : Int32) + (0 : Int32)))])) _
          have hc113_69 : (lcmpW q1 bb) = (0 : Int32) := (lw_eq _ _).mpr hab.1
          refine Own.go (fun t k => XS.ifNo X65.here hx rfl (hb hby at_113) rfl ((if0 _ _).trans (teq hc113_69).2) k) ?_
          show Own.Fin p e below (T65.setTop (mkF m 116 #[.val (.long q1), .second, .val (.long q2), .second, .val (.long q3), .second, .val (.int p4), .val (.long bb), .second, .val (.long cc), .second, .val (.int (0 : Int32)), .val (.int (0 : Int32)), .val (.int (1 : Int32)), .val (.int (0 : Int32)), .val (.int (0 : Int32)), .unset, .unset] [(.int ((0 : Int32) + (0 : Int32)))])) _
          refine Own.go (fun t k => XS.iconst X65.here hx rfl (hb hby at_116) k) ?_
          show Own.Fin p e below (T65.setTop (mkF m 117 #[.val (.long q1), .second, .val (.long q2), .second, .val (.long q3), .second, .val (.int p4), .val (.long bb), .second, .val (.long cc), .second, .val (.int (0 : Int32)), .val (.int (0 : Int32)), .val (.int (1 : Int32)), .val (.int (0 : Int32)), .val (.int (0 : Int32)), .unset, .unset] [(.int (1 : Int32)), (.int ((0 : Int32) + (0 : Int32)))])) _
          refine Own.go (fun t k => XS.goto X65.here hx rfl (pc0 := 117) (pc' := 121) rfl (hb hby at_117) (by decide) (by decide) k) ?_
          show Own.Fin p e below (T65.setTop (mkF m 121 #[.val (.long q1), .second, .val (.long q2), .second, .val (.long q3), .second, .val (.int p4), .val (.long bb), .second, .val (.long cc), .second, .val (.int (0 : Int32)), .val (.int (0 : Int32)), .val (.int (1 : Int32)), .val (.int (0 : Int32)), .val (.int (0 : Int32)), .unset, .unset] [(.int (1 : Int32)), (.int ((0 : Int32) + (0 : Int32)))])) _
          refine Own.go (fun t k => XS.iadd X65.here hx rfl (hb hby at_121) rfl k) ?_
          show Own.Fin p e below (T65.setTop (mkF m 122 #[.val (.long q1), .second, .val (.long q2), .second, .val (.long q3), .second, .val (.int p4), .val (.long bb), .second, .val (.long cc), .second, .val (.int (0 : Int32)), .val (.int (0 : Int32)), .val (.int (1 : Int32)), .val (.int (0 : Int32)), .val (.int (0 : Int32)), .unset, .unset] [(.int (((0 : Int32) + (0 : Int32)) + (1 : Int32)))])) _
          refine Own.go (fun t k => XS.istore X65.here hx rfl (hb hby at_122) rfl (l' := #[.val (.long q1), .second, .val (.long q2), .second, .val (.long q3), .second, .val (.int p4), .val (.long bb), .second, .val (.long cc), .second, .val (.int (0 : Int32)), .val (.int (0 : Int32)), .val (.int (1 : Int32)), .val (.int (0 : Int32)), .val (.int (0 : Int32)), .val (.int (((0 : Int32) + (0 : Int32)) + (1 : Int32))), .unset]) rfl k) ?_
          show Own.Fin p e below (T65.setTop (mkF m 124 #[.val (.long q1), .second, .val (.long q2), .second, .val (.long q3), .second, .val (.int p4), .val (.long bb), .second, .val (.long cc), .second, .val (.int (0 : Int32)), .val (.int (0 : Int32)), .val (.int (1 : Int32)), .val (.int (0 : Int32)), .val (.int (0 : Int32)), .val (.int (((0 : Int32) + (0 : Int32)) + (1 : Int32))), .unset] [])) _
          refine Own.go (fun t k => XS.iload X65.here hx rfl (hb hby at_124) rfl k) ?_
          show Own.Fin p e below (T65.setTop (mkF m 126 #[.val (.long q1), .second, .val (.long q2), .second, .val (.long q3), .second, .val (.int p4), .val (.long bb), .second, .val (.long cc), .second, .val (.int (0 : Int32)), .val (.int (0 : Int32)), .val (.int (1 : Int32)), .val (.int (0 : Int32)), .val (.int (0 : Int32)), .val (.int (((0 : Int32) + (0 : Int32)) + (1 : Int32))), .unset] [(.int (0 : Int32))])) _
          have hc126_70 : (0 : Int32) = (0 : Int32) := by decide
          refine Own.go (fun t k => XS.ifYes X65.here hx rfl (pc0 := 126) (pc' := 139) rfl (hb hby at_126) rfl ((if0 _ _).trans (teq hc126_70).1) (by decide) (by decide) k) ?_
          show Own.Fin p e below (T65.setTop (mkF m 139 #[.val (.long q1), .second, .val (.long q2), .second, .val (.long q3), .second, .val (.int p4), .val (.long bb), .second, .val (.long cc), .second, .val (.int (0 : Int32)), .val (.int (0 : Int32)), .val (.int (1 : Int32)), .val (.int (0 : Int32)), .val (.int (0 : Int32)), .val (.int (((0 : Int32) + (0 : Int32)) + (1 : Int32))), .unset] [])) _
          refine Own.go (fun t k => XS.iconst X65.here hx rfl (hb hby at_139) k) ?_
          show Own.Fin p e below (T65.setTop (mkF m 140 #[.val (.long q1), .second, .val (.long q2), .second, .val (.long q3), .second, .val (.int p4), .val (.long bb), .second, .val (.long cc), .second, .val (.int (0 : Int32)), .val (.int (0 : Int32)), .val (.int (1 : Int32)), .val (.int (0 : Int32)), .val (.int (0 : Int32)), .val (.int (((0 : Int32) + (0 : Int32)) + (1 : Int32))), .unset] [(.int (1 : Int32))])) _
          refine Own.go (fun t k => XS.goto X65.here hx rfl (pc0 := 140) (pc' := 144) rfl (hb hby at_140) (by decide) (by decide) k) ?_
          show Own.Fin p e below (T65.setTop (mkF m 144 #[.val (.long q1), .second, .val (.long q2), .second, .val (.long q3), .second, .val (.int p4), .val (.long bb), .second, .val (.long cc), .second, .val (.int (0 : Int32)), .val (.int (0 : Int32)), .val (.int (1 : Int32)), .val (.int (0 : Int32)), .val (.int (0 : Int32)), .val (.int (((0 : Int32) + (0 : Int32)) + (1 : Int32))), .unset] [(.int (1 : Int32))])) _
          refine Own.go (fun t k => XS.istore X65.here hx rfl (hb hby at_144) rfl (l' := #[.val (.long q1), .second, .val (.long q2), .second, .val (.long q3), .second, .val (.int p4), .val (.long bb), .second, .val (.long cc), .second, .val (.int (0 : Int32)), .val (.int (0 : Int32)), .val (.int (1 : Int32)), .val (.int (0 : Int32)), .val (.int (0 : Int32)), .val (.int (((0 : Int32) + (0 : Int32)) + (1 : Int32))), .val (.int (1 : Int32))]) rfl k) ?_
          show Own.Fin p e below (T65.setTop (mkF m 146 #[.val (.long q1), .second, .val (.long q2), .second, .val (.long q3), .second, .val (.int p4), .val (.long bb), .second, .val (.long cc), .second, .val (.int (0 : Int32)), .val (.int (0 : Int32)), .val (.int (1 : Int32)), .val (.int (0 : Int32)), .val (.int (0 : Int32)), .val (.int (((0 : Int32) + (0 : Int32)) + (1 : Int32))), .val (.int (1 : Int32))] [])) _
          refine Own.go (fun t k => XS.iload X65.here hx rfl (hb hby at_146) rfl k) ?_
          show Own.Fin p e below (T65.setTop (mkF m 148 #[.val (.long q1), .second, .val (.long q2), .second, .val (.long q3), .second, .val (.int p4), .val (.long bb), .second, .val (.long cc), .second, .val (.int (0 : Int32)), .val (.int (0 : Int32)), .val (.int (1 : Int32)), .val (.int (0 : Int32)), .val (.int (0 : Int32)), .val (.int (((0 : Int32) + (0 : Int32)) + (1 : Int32))), .val (.int (1 : Int32))] [(.int (0 : Int32))])) _
          refine Own.go (fun t k => XS.iload X65.here hx rfl (hb hby at_148) rfl k) ?_
          show Own.Fin p e below (T65.setTop (mkF m 150 #[.val (.long q1), .second, .val (.long q2), .second, .val (.long q3), .second, .val (.int p4), .val (.long bb), .second, .val (.long cc), .second, .val (.int (0 : Int32)), .val (.int (0 : Int32)), .val (.int (1 : Int32)), .val (.int (0 : Int32)), .val (.int (0 : Int32)), .val (.int (((0 : Int32) + (0 : Int32)) + (1 : Int32))), .val (.int (1 : Int32))] [(.int (0 : Int32)), (.int (0 : Int32))])) _
          have hc150_71 : (0 : Int32) = (0 : Int32) := by decide
          refine Own.go (fun t k => XS.icmpNo X65.here hx rfl (hb hby at_150) rfl (teq hc150_71).2 k) ?_
          show Own.Fin p e below (T65.setTop (mkF m 153 #[.val (.long q1), .second, .val (.long q2), .second, .val (.long q3), .second, .val (.int p4), .val (.long bb), .second, .val (.long cc), .second, .val (.int (0 : Int32)), .val (.int (0 : Int32)), .val (.int (1 : Int32)), .val (.int (0 : Int32)), .val (.int (0 : Int32)), .val (.int (((0 : Int32) + (0 : Int32)) + (1 : Int32))), .val (.int (1 : Int32))] [])) _
          refine Own.go (fun t k => XS.iload X65.here hx rfl (hb hby at_153) rfl k) ?_
          show Own.Fin p e below (T65.setTop (mkF m 155 #[.val (.long q1), .second, .val (.long q2), .second, .val (.long q3), .second, .val (.int p4), .val (.long bb), .second, .val (.long cc), .second, .val (.int (0 : Int32)), .val (.int (0 : Int32)), .val (.int (1 : Int32)), .val (.int (0 : Int32)), .val (.int (0 : Int32)), .val (.int (((0 : Int32) + (0 : Int32)) + (1 : Int32))), .val (.int (1 : Int32))] [(.int (((0 : Int32) + (0 : Int32)) + (1 : Int32)))])) _
          refine Own.go (fun t k => XS.iconst X65.here hx rfl (hb hby at_155) k) ?_
          show Own.Fin p e below (T65.setTop (mkF m 156 #[.val (.long q1), .second, .val (.long q2), .second, .val (.long q3), .second, .val (.int p4), .val (.long bb), .second, .val (.long cc), .second, .val (.int (0 : Int32)), .val (.int (0 : Int32)), .val (.int (1 : Int32)), .val (.int (0 : Int32)), .val (.int (0 : Int32)), .val (.int (((0 : Int32) + (0 : Int32)) + (1 : Int32))), .val (.int (1 : Int32))] [(.int (1 : Int32)), (.int (((0 : Int32) + (0 : Int32)) + (1 : Int32)))])) _
          have hc156_72 : (((0 : Int32) + (0 : Int32)) + (1 : Int32)) = (1 : Int32) := by decide
          refine Own.go (fun t k => XS.icmpNo X65.here hx rfl (hb hby at_156) rfl (teq hc156_72).2 k) ?_
          show Own.Fin p e below (T65.setTop (mkF m 159 #[.val (.long q1), .second, .val (.long q2), .second, .val (.long q3), .second, .val (.int p4), .val (.long bb), .second, .val (.long cc), .second, .val (.int (0 : Int32)), .val (.int (0 : Int32)), .val (.int (1 : Int32)), .val (.int (0 : Int32)), .val (.int (0 : Int32)), .val (.int (((0 : Int32) + (0 : Int32)) + (1 : Int32))), .val (.int (1 : Int32))] [])) _
          refine Own.go (fun t k => XS.iload X65.here hx rfl (hb hby at_159) rfl k) ?_
          show Own.Fin p e below (T65.setTop (mkF m 161 #[.val (.long q1), .second, .val (.long q2), .second, .val (.long q3), .second, .val (.int p4), .val (.long bb), .second, .val (.long cc), .second, .val (.int (0 : Int32)), .val (.int (0 : Int32)), .val (.int (1 : Int32)), .val (.int (0 : Int32)), .val (.int (0 : Int32)), .val (.int (((0 : Int32) + (0 : Int32)) + (1 : Int32))), .val (.int (1 : Int32))] [(.int (1 : Int32))])) _
          have hc161_73 : ¬ ((1 : Int32) = (0 : Int32)) := by decide
          refine Own.go (fun t k => XS.ifNo X65.here hx rfl (hb hby at_161) rfl ((if0 _ _).trans (feq hc161_73).1) k) ?_
          show Own.Fin p e below (T65.setTop (mkF m 164 #[.val (.long q1), .second, .val (.long q2), .second, .val (.long q3), .second, .val (.int p4), .val (.long bb), .second, .val (.long cc), .second, .val (.int (0 : Int32)), .val (.int (0 : Int32)), .val (.int (1 : Int32)), .val (.int (0 : Int32)), .val (.int (0 : Int32)), .val (.int (((0 : Int32) + (0 : Int32)) + (1 : Int32))), .val (.int (1 : Int32))] [])) _
          refine Own.go (fun t k => XS.iconst X65.here hx rfl (hb hby at_164) k) ?_
          show Own.Fin p e below (T65.setTop (mkF m 165 #[.val (.long q1), .second, .val (.long q2), .second, .val (.long q3), .second, .val (.int p4), .val (.long bb), .second, .val (.long cc), .second, .val (.int (0 : Int32)), .val (.int (0 : Int32)), .val (.int (1 : Int32)), .val (.int (0 : Int32)), .val (.int (0 : Int32)), .val (.int (((0 : Int32) + (0 : Int32)) + (1 : Int32))), .val (.int (1 : Int32))] [(.int (1 : Int32))])) _
          refine Own.go (fun t k => XS.goto X65.here hx rfl (pc0 := 165) (pc' := 169) rfl (hb hby at_165) (by decide) (by decide) k) ?_
          show Own.Fin p e below (T65.setTop (mkF m 169 #[.val (.long q1), .second, .val (.long q2), .second, .val (.long q3), .second, .val (.int p4), .val (.long bb), .second, .val (.long cc), .second, .val (.int (0 : Int32)), .val (.int (0 : Int32)), .val (.int (1 : Int32)), .val (.int (0 : Int32)), .val (.int (0 : Int32)), .val (.int (((0 : Int32) + (0 : Int32)) + (1 : Int32))), .val (.int (1 : Int32))] [(.int (1 : Int32))])) _
          refine Own.retN X65 hx Bd.notSynchronized (t := .boolean) Bd.returns (by simp) (hb hby at_169) (by decide) (by decide) ?_
          exact ⟨rfl, N65⟩
      · by_cases hac : cc < q1
        · skip
          show Own.Fin p e below (s₁.setTop (mkF m 30 #[.val (.long q1), .second, .val (.long q2), .second, .val (.long q3), .second, .val (.int p4), .val (.long bb), .second, .val (.long cc), .second, .unset, .unset, .unset, .unset, .unset, .unset, .unset] [])) _
          refine Own.go (fun t k => XS.lloadN X0.here hx rfl (hb hby at_30) rfl k) ?_
          show Own.Fin p e below (s₁.setTop (mkF m 31 #[.val (.long q1), .second, .val (.long q2), .second, .val (.long q3), .second, .val (.int p4), .val (.long bb), .second, .val (.long cc), .second, .unset, .unset, .unset, .unset, .unset, .unset, .unset] [(.long q1)])) _
          refine Own.go (fun t k => XS.lload X0.here hx rfl (hb hby at_31) rfl k) ?_
          show Own.Fin p e below (s₁.setTop (mkF m 33 #[.val (.long q1), .second, .val (.long q2), .second, .val (.long q3), .second, .val (.int p4), .val (.long bb), .second, .val (.long cc), .second, .unset, .unset, .unset, .unset, .unset, .unset, .unset] [(.long bb), (.long q1)])) _
          refine Own.cS X0 hx hZ hown (hw _ (List.mem_of_getElem? (i := 0) rfl)) (hw _ (List.mem_of_getElem? (i := 1) rfl)) (hw _ (List.mem_of_getElem? (i := 2) rfl)) (hw _ (List.mem_of_getElem? (i := 3) rfl)) (by decide) (rm1 l Z a0 hw [] q1 bb h0 n0 Z0 ) (by decide) (W := 0) (by decide) (argsL := [(.long q1), (.long bb)]) (rest := []) (by rw [hml]; rfl) (lenOf pd_0 rfl) rfl (Nat.le_of_eq rfl) (hb hby at_33) e0 (by decide) (by decide) ?_
          intro T75 L75 v75 X75 hQ75
          obtain ⟨rfl, N75q, e75⟩ := hQ75
          have N75 := Fr.app N0 N75q
          rw [own_co0 hab.2.2]
          show Own.Fin p e below (T75.setTop (mkF m 36 #[.val (.long q1), .second, .val (.long q2), .second, .val (.long q3), .second, .val (.int p4), .val (.long bb), .second, .val (.long cc), .second, .unset, .unset, .unset, .unset, .unset, .unset, .unset] [(.int (0 : Int32))])) _
          refine Own.go (fun t k => XS.istore X75.here hx rfl (hb hby at_36) rfl (l' := #[.val (.long q1), .second, .val (.long q2), .second, .val (.long q3), .second, .val (.int p4), .val (.long bb), .second, .val (.long cc), .second, .val (.int (0 : Int32)), .unset, .unset, .unset, .unset, .unset, .unset]) rfl k) ?_
          show Own.Fin p e below (T75.setTop (mkF m 38 #[.val (.long q1), .second, .val (.long q2), .second, .val (.long q3), .second, .val (.int p4), .val (.long bb), .second, .val (.long cc), .second, .val (.int (0 : Int32)), .unset, .unset, .unset, .unset, .unset, .unset] [])) _
          refine Own.go (fun t k => XS.lload X75.here hx rfl (hb hby at_38) rfl k) ?_
          show Own.Fin p e below (T75.setTop (mkF m 40 #[.val (.long q1), .second, .val (.long q2), .second, .val (.long q3), .second, .val (.int p4), .val (.long bb), .second, .val (.long cc), .second, .val (.int (0 : Int32)), .unset, .unset, .unset, .unset, .unset, .unset] [(.long bb)])) _
          refine Own.go (fun t k => XS.lloadN X75.here hx rfl (hb hby at_40) rfl k) ?_
          show Own.Fin p e below (T75.setTop (mkF m 41 #[.val (.long q1), .second, .val (.long q2), .second, .val (.long q3), .second, .val (.int p4), .val (.long bb), .second, .val (.long cc), .second, .val (.int (0 : Int32)), .unset, .unset, .unset, .unset, .unset, .unset] [(.long q1), (.long bb)])) _
          refine Own.cS X75 hx hZ hown (hw _ (List.mem_of_getElem? (i := 0) rfl)) (hw _ (List.mem_of_getElem? (i := 1) rfl)) (hw _ (List.mem_of_getElem? (i := 2) rfl)) (hw _ (List.mem_of_getElem? (i := 3) rfl)) (by decide) (rm1 l Z a0 hw [] bb q1 h0 n0 Z0 ) (by decide) (W := 0) (by decide) (argsL := [(.long bb), (.long q1)]) (rest := []) (by rw [hml]; rfl) (lenOf pd_0 rfl) rfl (Nat.le_of_eq rfl) (hb hby at_41) e75 (by decide) (by decide) ?_
          intro T76 L76 v76 X76 hQ76
          obtain ⟨rfl, N76q, e76⟩ := hQ76
          have N76 := Fr.app N75 N76q
          rw [own_co0 hab.2.1]
          show Own.Fin p e below (T76.setTop (mkF m 44 #[.val (.long q1), .second, .val (.long q2), .second, .val (.long q3), .second, .val (.int p4), .val (.long bb), .second, .val (.long cc), .second, .val (.int (0 : Int32)), .unset, .unset, .unset, .unset, .unset, .unset] [(.int (0 : Int32))])) _
          refine Own.go (fun t k => XS.istore X76.here hx rfl (hb hby at_44) rfl (l' := #[.val (.long q1), .second, .val (.long q2), .second, .val (.long q3), .second, .val (.int p4), .val (.long bb), .second, .val (.long cc), .second, .val (.int (0 : Int32)), .val (.int (0 : Int32)), .unset, .unset, .unset, .unset, .unset]) rfl k) ?_
          show Own.Fin p e below (T76.setTop (mkF m 46 #[.val (.long q1), .second, .val (.long q2), .second, .val (.long q3), .second, .val (.int p4), .val (.long bb), .second, .val (.long cc), .second, .val (.int (0 : Int32)), .val (.int (0 : Int32)), .unset, .unset, .unset, .unset, .unset] [])) _
          refine Own.go (fun t k => XS.lload X76.here hx rfl (hb hby at_46) rfl k) ?_
          show Own.Fin p e below (T76.setTop (mkF m 48 #[.val (.long q1), .second, .val (.long q2), .second, .val (.long q3), .second, .val (.int p4), .val (.long bb), .second, .val (.long cc), .second, .val (.int (0 : Int32)), .val (.int (0 : Int32)), .unset, .unset, .unset, .unset, .unset] [(.long bb)])) _
          refine Own.go (fun t k => XS.lload X76.here hx rfl (hb hby at_48) rfl k) ?_
          show Own.Fin p e below (T76.setTop (mkF m 50 #[.val (.long q1), .second, .val (.long q2), .second, .val (.long q3), .second, .val (.int p4), .val (.long bb), .second, .val (.long cc), .second, .val (.int (0 : Int32)), .val (.int (0 : Int32)), .unset, .unset, .unset, .unset, .unset] [(.long cc), (.long bb)])) _
          refine Own.cS X76 hx hZ hown (hw _ (List.mem_of_getElem? (i := 0) rfl)) (hw _ (List.mem_of_getElem? (i := 1) rfl)) (hw _ (List.mem_of_getElem? (i := 2) rfl)) (hw _ (List.mem_of_getElem? (i := 3) rfl)) (by decide) (rm1 l Z a0 hw [] bb cc h0 n0 Z0 ) (by decide) (W := 0) (by decide) (argsL := [(.long bb), (.long cc)]) (rest := []) (by rw [hml]; rfl) (lenOf pd_0 rfl) rfl (Nat.le_of_eq rfl) (hb hby at_50) e76 (by decide) (by decide) ?_
          intro T77 L77 v77 X77 hQ77
          obtain ⟨rfl, N77q, e77⟩ := hQ77
          have N77 := Fr.app N76 N77q
          rw [own_co0 hbc]
          show Own.Fin p e below (T77.setTop (mkF m 53 #[.val (.long q1), .second, .val (.long q2), .second, .val (.long q3), .second, .val (.int p4), .val (.long bb), .second, .val (.long cc), .second, .val (.int (0 : Int32)), .val (.int (0 : Int32)), .unset, .unset, .unset, .unset, .unset] [(.int (0 : Int32))])) _
          refine Own.go (fun t k => XS.istore X77.here hx rfl (hb hby at_53) rfl (l' := #[.val (.long q1), .second, .val (.long q2), .second, .val (.long q3), .second, .val (.int p4), .val (.long bb), .second, .val (.long cc), .second, .val (.int (0 : Int32)), .val (.int (0 : Int32)), .val (.int (0 : Int32)), .unset, .unset, .unset, .unset]) rfl k) ?_
          show Own.Fin p e below (T77.setTop (mkF m 55 #[.val (.long q1), .second, .val (.long q2), .second, .val (.long q3), .second, .val (.int p4), .val (.long bb), .second, .val (.long cc), .second, .val (.int (0 : Int32)), .val (.int (0 : Int32)), .val (.int (0 : Int32)), .unset, .unset, .unset, .unset] [])) _
          refine Own.go (fun t k => XS.lloadN X77.here hx rfl (hb hby at_55) rfl k) ?_
          show Own.Fin p e below (T77.setTop (mkF m 56 #[.val (.long q1), .second, .val (.long q2), .second, .val (.long q3), .second, .val (.int p4), .val (.long bb), .second, .val (.long cc), .second, .val (.int (0 : Int32)), .val (.int (0 : Int32)), .val (.int (0 : Int32)), .unset, .unset, .unset, .unset] [(.long q1)])) _
          refine Own.go (fun t k => XS.lload X77.here hx rfl (hb hby at_56) rfl k) ?_
          show Own.Fin p e below (T77.setTop (mkF m 58 #[.val (.long q1), .second, .val (.long q2), .second, .val (.long q3), .second, .val (.int p4), .val (.long bb), .second, .val (.long cc), .second, .val (.int (0 : Int32)), .val (.int (0 : Int32)), .val (.int (0 : Int32)), .unset, .unset, .unset, .unset] [(.long cc), (.long q1)])) _
          refine Own.cS X77 hx hZ hown (hw _ (List.mem_of_getElem? (i := 0) rfl)) (hw _ (List.mem_of_getElem? (i := 1) rfl)) (hw _ (List.mem_of_getElem? (i := 2) rfl)) (hw _ (List.mem_of_getElem? (i := 3) rfl)) (by decide) (rm1 l Z a0 hw [] q1 cc h0 n0 Z0 ) (by decide) (W := 0) (by decide) (argsL := [(.long q1), (.long cc)]) (rest := []) (by rw [hml]; rfl) (lenOf pd_0 rfl) rfl (Nat.le_of_eq rfl) (hb hby at_58) e77 (by decide) (by decide) ?_
          intro T78 L78 v78 X78 hQ78
          obtain ⟨rfl, N78q, e78⟩ := hQ78
          have N78 := Fr.app N77 N78q
          rw [own_co1 hac]
          show Own.Fin p e below (T78.setTop (mkF m 61 #[.val (.long q1), .second, .val (.long q2), .second, .val (.long q3), .second, .val (.int p4), .val (.long bb), .second, .val (.long cc), .second, .val (.int (0 : Int32)), .val (.int (0 : Int32)), .val (.int (0 : Int32)), .unset, .unset, .unset, .unset] [(.int (1 : Int32))])) _
          refine Own.go (fun t k => XS.istore X78.here hx rfl (hb hby at_61) rfl (l' := #[.val (.long q1), .second, .val (.long q2), .second, .val (.long q3), .second, .val (.int p4), .val (.long bb), .second, .val (.long cc), .second, .val (.int (0 : Int32)), .val (.int (0 : Int32)), .val (.int (0 : Int32)), .val (.int (1 : Int32)), .unset, .unset, .unset]) rfl k) ?_
          show Own.Fin p e below (T78.setTop (mkF m 63 #[.val (.long q1), .second, .val (.long q2), .second, .val (.long q3), .second, .val (.int p4), .val (.long bb), .second, .val (.long cc), .second, .val (.int (0 : Int32)), .val (.int (0 : Int32)), .val (.int (0 : Int32)), .val (.int (1 : Int32)), .unset, .unset, .unset] [])) _
          refine Own.go (fun t k => XS.lloadN X78.here hx rfl (hb hby at_63) rfl k) ?_
          show Own.Fin p e below (T78.setTop (mkF m 64 #[.val (.long q1), .second, .val (.long q2), .second, .val (.long q3), .second, .val (.int p4), .val (.long bb), .second, .val (.long cc), .second, .val (.int (0 : Int32)), .val (.int (0 : Int32)), .val (.int (0 : Int32)), .val (.int (1 : Int32)), .unset, .unset, .unset] [(.long q1)])) _
          refine Own.go (fun t k => XS.lload X78.here hx rfl (hb hby at_64) rfl k) ?_
          show Own.Fin p e below (T78.setTop (mkF m 66 #[.val (.long q1), .second, .val (.long q2), .second, .val (.long q3), .second, .val (.int p4), .val (.long bb), .second, .val (.long cc), .second, .val (.int (0 : Int32)), .val (.int (0 : Int32)), .val (.int (0 : Int32)), .val (.int (1 : Int32)), .unset, .unset, .unset] [(.long bb), (.long q1)])) _
          refine Own.cS X78 hx hZ hown (hw _ (List.mem_of_getElem? (i := 4) rfl)) (hw _ (List.mem_of_getElem? (i := 5) rfl)) (hw _ (List.mem_of_getElem? (i := 6) rfl)) (hw _ (List.mem_of_getElem? (i := 7) rfl)) (by decide) (rm2 l Z a0 hw [] q1 bb h0 n0 Z0 ) (by decide) (W := 0) (by decide) (argsL := [(.long q1), (.long bb)]) (rest := []) (by rw [hml]; rfl) (lenOf pd_1 rfl) rfl (Nat.le_of_eq rfl) (hb hby at_66) e78 (by decide) (by decide) ?_
          intro T79 L79 v79 X79 hQ79
          obtain ⟨rfl, N79q, e79⟩ := hQ79
          have N79 := Fr.app N78 N79q
          rw [own_mx0 hab.2.1]
          show Own.Fin p e below (T79.setTop (mkF m 69 #[.val (.long q1), .second, .val (.long q2), .second, .val (.long q3), .second, .val (.int p4), .val (.long bb), .second, .val (.long cc), .second, .val (.int (0 : Int32)), .val (.int (0 : Int32)), .val (.int (0 : Int32)), .val (.int (1 : Int32)), .unset, .unset, .unset] [(.long q1)])) _
          refine Own.go (fun t k => XS.lloadN X79.here hx rfl (hb hby at_69) rfl k) ?_
          show Own.Fin p e below (T79.setTop (mkF m 70 #[.val (.long q1), .second, .val (.long q2), .second, .val (.long q3), .second, .val (.int p4), .val (.long bb), .second, .val (.long cc), .second, .val (.int (0 : Int32)), .val (.int (0 : Int32)), .val (.int (0 : Int32)), .val (.int (1 : Int32)), .unset, .unset, .unset] [(.long q1), (.long q1)])) _
          refine Own.go (fun t k => XS.lcmp X79.here hx rfl (hb hby at_70) rfl k) ?_
          show Own.Fin p e below (T79.setTop (mkF m 71 #[.val (.long q1), .second, .val (.long q2), .second, .val (.long q3), .second, .val (.int p4), .val (.long bb), .second, .val (.long cc), .second, .val (.int (0 : Int32)), .val (.int (0 : Int32)), .val (.int (0 : Int32)), .val (.int (1 : Int32)), .unset, .unset, .unset] [(.int (lcmpW q1 q1))])) _
          have hc71_79 : (lcmpW q1 q1) = (0 : Int32) := (lw_eq _ _).mpr rfl
          refine Own.go (fun t k => XS.ifNo X79.here hx rfl (hb hby at_71) rfl ((if0 _ _).trans (teq hc71_79).2) k) ?_
          show Own.Fin p e below (T79.setTop (mkF m 74 #[.val (.long q1), .second, .val (.long q2), .second, .val (.long q3), .second, .val (.int p4), .val (.long bb), .second, .val (.long cc), .second, .val (.int (0 : Int32)), .val (.int (0 : Int32)), .val (.int (0 : Int32)), .val (.int (1 : Int32)), .unset, .unset, .unset] [])) _
          refine Own.go (fun t k => XS.lloadN X79.here hx rfl (hb hby at_74) rfl k) ?_
          show Own.Fin p e below (T79.setTop (mkF m 75 #[.val (.long q1), .second, .val (.long q2), .second, .val (.long q3), .second, .val (.int p4), .val (.long bb), .second, .val (.long cc), .second, .val (.int (0 : Int32)), .val (.int (0 : Int32)), .val (.int (0 : Int32)), .val (.int (1 : Int32)), .unset, .unset, .unset] [(.long q1)])) _
          refine Own.go (fun t k => XS.lload X79.here hx rfl (hb hby at_75) rfl k) ?_
          show Own.Fin p e below (T79.setTop (mkF m 77 #[.val (.long q1), .second, .val (.long q2), .second, .val (.long q3), .second, .val (.int p4), .val (.long bb), .second, .val (.long cc), .second, .val (.int (0 : Int32)), .val (.int (0 : Int32)), .val (.int (0 : Int32)), .val (.int (1 : Int32)), .unset, .unset, .unset] [(.long bb), (.long q1)])) _
          refine Own.go (fun t k => XS.lcmp X79.here hx rfl (hb hby at_77) rfl k) ?_
          show Own.Fin p e below (T79.setTop (mkF m 78 #[.val (.long q1), .second, .val (.long q2), .second, .val (.long q3), .second, .val (.int p4), .val (.long bb), .second, .val (.long cc), .second, .val (.int (0 : Int32)), .val (.int (0 : Int32)), .val (.int (0 : Int32)), .val (.int (1 : Int32)), .unset, .unset, .unset] [(.int (lcmpW q1 bb))])) _
          have hc78_80 : (lcmpW q1 bb) = (0 : Int32) := (lw_eq _ _).mpr hab.1
          refine Own.go (fun t k => XS.ifYes X79.here hx rfl (pc0 := 78) (pc' := 85) rfl (hb hby at_78) rfl ((if0 _ _).trans (teq hc78_80).1) (by decide) (by decide) k) ?_
          show Own.Fin p e below (T79.setTop (mkF m 85 #[.val (.long q1), .second, .val (.long q2), .second, .val (.long q3), .second, .val (.int p4), .val (.long bb), .second, .val (.long cc), .second, .val (.int (0 : Int32)), .val (.int (0 : Int32)), .val (.int (0 : Int32)), .val (.int (1 : Int32)), .unset, .unset, .unset] [])) _
          refine Own.go (fun t k => XS.iconst X79.here hx rfl (hb hby at_85) k) ?_
          show Own.Fin p e below (T79.setTop (mkF m 86 #[.val (.long q1), .second, .val (.long q2), .second, .val (.long q3), .second, .val (.int p4), .val (.long bb), .second, .val (.long cc), .second, .val (.int (0 : Int32)), .val (.int (0 : Int32)), .val (.int (0 : Int32)), .val (.int (1 : Int32)), .unset, .unset, .unset] [(.int (0 : Int32))])) _
          refine Own.go (fun t k => XS.istore X79.here hx rfl (hb hby at_86) rfl (l' := #[.val (.long q1), .second, .val (.long q2), .second, .val (.long q3), .second, .val (.int p4), .val (.long bb), .second, .val (.long cc), .second, .val (.int (0 : Int32)), .val (.int (0 : Int32)), .val (.int (0 : Int32)), .val (.int (1 : Int32)), .val (.int (0 : Int32)), .unset, .unset]) rfl k) ?_
          show Own.Fin p e below (T79.setTop (mkF m 88 #[.val (.long q1), .second, .val (.long q2), .second, .val (.long q3), .second, .val (.int p4), .val (.long bb), .second, .val (.long cc), .second, .val (.int (0 : Int32)), .val (.int (0 : Int32)), .val (.int (0 : Int32)), .val (.int (1 : Int32)), .val (.int (0 : Int32)), .unset, .unset] [])) _
          refine Own.go (fun t k => XS.iload X79.here hx rfl (hb hby at_88) rfl k) ?_
          show Own.Fin p e below (T79.setTop (mkF m 90 #[.val (.long q1), .second, .val (.long q2), .second, .val (.long q3), .second, .val (.int p4), .val (.long bb), .second, .val (.long cc), .second, .val (.int (0 : Int32)), .val (.int (0 : Int32)), .val (.int (0 : Int32)), .val (.int (1 : Int32)), .val (.int (0 : Int32)), .unset, .unset] [(.int (0 : Int32))])) _
          have hc90_81 : (0 : Int32) = (0 : Int32) := by decide
          refine Own.go (fun t k => XS.ifYes X79.here hx rfl (pc0 := 90) (pc' := 97) rfl (hb hby at_90) rfl ((if0 _ _).trans (teq hc90_81).1) (by decide) (by decide) k) ?_
          show Own.Fin p e below (T79.setTop (mkF m 97 #[.val (.long q1), .second, .val (.long q2), .second, .val (.long q3), .second, .val (.int p4), .val (.long bb), .second, .val (.long cc), .second, .val (.int (0 : Int32)), .val (.int (0 : Int32)), .val (.int (0 : Int32)), .val (.int (1 : Int32)), .val (.int (0 : Int32)), .unset, .unset] [])) _
          refine Own.go (fun t k => XS.iconst X79.here hx rfl (hb hby at_97) k) ?_
          show Own.Fin p e below (T79.setTop (mkF m 98 #[.val (.long q1), .second, .val (.long q2), .second, .val (.long q3), .second, .val (.int p4), .val (.long bb), .second, .val (.long cc), .second, .val (.int (0 : Int32)), .val (.int (0 : Int32)), .val (.int (0 : Int32)), .val (.int (1 : Int32)), .val (.int (0 : Int32)), .unset, .unset] [(.int (0 : Int32))])) _
          refine Own.go (fun t k => XS.iload X79.here hx rfl (hb hby at_98) rfl k) ?_
          show Own.Fin p e below (T79.setTop (mkF m 100 #[.val (.long q1), .second, .val (.long q2), .second, .val (.long q3), .second, .val (.int p4), .val (.long bb), .second, .val (.long cc), .second, .val (.int (0 : Int32)), .val (.int (0 : Int32)), .val (.int (0 : Int32)), .val (.int (1 : Int32)), .val (.int (0 : Int32)), .unset, .unset] [(.int (0 : Int32)), (.int (0 : Int32))])) _
          have hc100_82 : (0 : Int32) = (0 : Int32) := by decide
          refine Own.go (fun t k => XS.ifYes X79.here hx rfl (pc0 := 100) (pc' := 107) rfl (hb hby at_100) rfl ((if0 _ _).trans (teq hc100_82).1) (by decide) (by decide) k) ?_
          show Own.Fin p e below (T79.setTop (mkF m 107 #[.val (.long q1), .second, .val (.long q2), .second, .val (.long q3), .second, .val (.int p4), .val (.long bb), .second, .val (.long cc), .second, .val (.int (0 : Int32)), .val (.int (0 : Int32)), .val (.int (0 : Int32)), .val (.int (1 : Int32)), .val (.int (0 : Int32)), .unset, .unset] [(.int (0 : Int32))])) _
          refine Own.go (fun t k => XS.iconst X79.here hx rfl (hb hby at_107) k) ?_
          show Own.Fin p e below (T79.setTop (mkF m 108 #[.val (.long q1), .second, .val (.long q2), .second, .val (.long q3), .second, .val (.int p4), .val (.long bb), .second, .val (.long cc), .second, .val (.int (0 : Int32)), .val (.int (0 : Int32)), .val (.int (0 : Int32)), .val (.int (1 : Int32)), .val (.int (0 : Int32)), .unset, .unset] [(.int (0 : Int32)), (.int (0 : Int32))])) _
          refine Own.go (fun t k => XS.iadd X79.here hx rfl (hb hby at_108) rfl k) ?_
          show Own.Fin p e below (T79.setTop (mkF m 109 #[.val (.long q1), .second, .val (.long q2), .second, .val (.long q3), .second, .val (.int p4), .val (.long bb), .second, .val (.long cc), .second, .val (.int (0 : Int32)), .val (.int (0 : Int32)), .val (.int (0 : Int32)), .val (.int (1 : Int32)), .val (.int (0 : Int32)), .unset, .unset] [(.int ((0 : Int32) + (0 : Int32)))])) _
          refine Own.go (fun t k => XS.lloadN X79.here hx rfl (hb hby at_109) rfl k) ?_
          show Own.Fin p e below (T79.setTop (mkF m 110 #[.val (.long q1), .second, .val (.long q2), .second, .val (.long q3), .second, .val (.int p4), .val (.long bb), .second, .val (.long cc), .second, .val (.int (0 : Int32)), .val (.int (0 : Int32)), .val (.int (0 : Int32)), .val (.int (1 : Int32)), .val (.int (0 : Int32)), .unset, .unset] [(.long q1), (.int ((0 : Int32) + (0 : Int32)))])) _
          refine Own.go (fun t k => XS.lload X79.here hx rfl (hb hby at_110) rfl k) ?_
          show Own.Fin p e below (T79.setTop (mkF m 112 #[.val (.long q1), .second, .val (.long q2), .second, .val (.long q3), .second, .val (.int p4), .val (.long bb), .second, .val (.long cc), .second, .val (.int (0 : Int32)), .val (.int (0 : Int32)), .val (.int (0 : Int32)), .val (.int (1 : Int32)), .val (.int (0 : Int32)), .unset, .unset] [(.long bb), (.long q1), (.int ((0 : Int32) + (0 : Int32)))])) _
          refine Own.go (fun t k => XS.lcmp X79.here hx rfl (hb hby at_112) rfl k) ?_
          show Own.Fin p e below (T79.setTop (mkF m 113 #[.val (.long q1), .second, .val (.long q2), .second, .val (.long q3), .second, .val (.int p4), .val (.long bb), .second, .val (.long cc), .second, .val (.int (0 : Int32)), .val (.int (0 : Int32)), .val (.int (0 : Int32)), .val (.int (1 : Int32)), .val (.int (0 : Int32)), .unset, .unset] [(.int (lcmpW q1 bb)), (.int ((0 : Int32) + (0 : Int32)))])) _
          have hc113_83 : (lcmpW q1 bb) = (0 : Int32) := (lw_eq _ _).mpr hab.1
          refine Own.go (fun t k => XS.ifNo X79.here hx rfl (hb hby at_113) rfl ((if0 _ _).trans (teq hc113_83).2) k) ?_
          show Own.Fin p e below (T79.setTop (mkF m 116 #[.val (.long q1), .second, .val (.long q2), .second, .val (.long q3), .second, .val (.int p4), .val (.long bb), .second, .val (.long cc), .second, .val (.int (0 : Int32)), .val (.int (0 : Int32)), .val (.int (0 : Int32)), .val (.int (1 : Int32)), .val (.int (0 : Int32)), .unset, .unset] [(.int ((0 : Int32) + (0 : Int32)))])) _
          refine Own.go (fun t k => XS.iconst X79.here hx rfl (hb hby at_116) k) ?_
          show Own.Fin p e below (T79.setTop (mkF m 117 #[.val (.long q1), .second, .val (.long q2), .second, .val (.long q3), .second, .val (.int p4), .val (.long bb), .second, .val (.long cc), .second, .val (.int (0 : Int32)), .val (.int (0 : Int32)), .val (.int (0 : Int32)), .val (.int (1 : Int32)), .val (.int (0 : Int32)), .unset, .unset] [(.int (1 : Int32)), (.int ((0 : Int32) + (0 : Int32)))])) _
          refine Own.go (fun t k => XS.goto X79.here hx rfl (pc0 := 117) (pc' := 121) rfl (hb hby at_117) (by decide) (by decide) k) ?_
          show Own.Fin p e below (T79.setTop (mkF m 121 #[.val (.long q1), .second, .val (.long q2), .second, .val (.long q3), .second, .val (.int p4), .val (.long bb), .second, .val (.long cc), .second, .val (.int (0 : Int32)), .val (.int (0 : Int32)), .val (.int (0 : Int32)), .val (.int (1 : Int32)), .val (.int (0 : Int32)), .unset, .unset] [(.int (1 : Int32)), (.int ((0 : Int32) + (0 : Int32)))])) _
          refine Own.go (fun t k => XS.iadd X79.here hx rfl (hb hby at_121) rfl k) ?_
          show Own.Fin p e below (T79.setTop (mkF m 122 #[.val (.long q1), .second, .val (.long q2), .second, .val (.long q3), .second, .val (.int p4), .val (.long bb), .second, .val (.long cc), .second, .val (.int (0 : Int32)), .val (.int (0 : Int32)), .val (.int (0 : Int32)), .val (.int (1 : Int32)), .val (.int (0 : Int32)), .unset, .unset] [(.int (((0 : Int32) + (0 : Int32)) + (1 : Int32)))])) _
          refine Own.go (fun t k => XS.istore X79.here hx rfl (hb hby at_122) rfl (l' := #[.val (.long q1), .second, .val (.long q2), .second, .val (.long q3), .second, .val (.int p4), .val (.long bb), .second, .val (.long cc), .second, .val (.int (0 : Int32)), .val (.int (0 : Int32)), .val (.int (0 : Int32)), .val (.int (1 : Int32)), .val (.int (0 : Int32)), .val (.int (((0 : Int32) + (0 : Int32)) + (1 : Int32))), .unset]) rfl k) ?_
          show Own.Fin p e below (T79.setTop (mkF m 124 #[.val (.long q1), .second, .val (.long q2), .second, .val (.long q3), .second, .val (.int p4), .val (.long bb), .second, .val (.long cc), .second, .val (.int (0 : Int32)), .val (.int (0 : Int32)), .val (.int (0 : Int32)), .val (.int (1 : Int32)), .val (.int (0 : Int32)), .val (.int (((0 : Int32) + (0 : Int32)) + (1 : Int32))), .unset] [])) _
          refine Own.go (fun t k => XS.iload X79.here hx rfl (hb hby at_124) rfl k) ?_
          show Own.Fin p e below (T79.setTop (mkF m 126 #[.val (.long q1), .second, .val (.long q2), .second, .val (.long q3), .second, .val (.int p4), .val (.long bb), .second, .val (.long cc), .second, .val (.int (0 : Int32)), .val (.int (0 : Int32)), .val (.int (0 : Int32)), .val (.int (1 : Int32)), .val (.int (0 : Int32)), .val (.int (((0 : Int32) + (0 : Int32)) + (1 : Int32))), .unset] [(.int (0 : Int32))])) _
          have hc126_84 : (0 : Int32) = (0 : Int32) := by decide
          refine Own.go (fun t k => XS.ifYes X79.here hx rfl (pc0 := 126) (pc' := 139) rfl (hb hby at_126) rfl ((if0 _ _).trans (teq hc126_84).1) (by decide) (by decide) k) ?_
          show Own.Fin p e below (T79.setTop (mkF m 139 #[.val (.long q1), .second, .val (.long q2), .second, .val (.long q3), .second, .val (.int p4), .val (.long bb), .second, .val (.long cc), .second, .val (.int (0 : Int32)), .val (.int (0 : Int32)), .val (.int (0 : Int32)), .val (.int (1 : Int32)), .val (.int (0 : Int32)), .val (.int (((0 : Int32) + (0 : Int32)) + (1 : Int32))), .unset] [])) _
          refine Own.go (fun t k => XS.iconst X79.here hx rfl (hb hby at_139) k) ?_
          show Own.Fin p e below (T79.setTop (mkF m 140 #[.val (.long q1), .second, .val (.long q2), .second, .val (.long q3), .second, .val (.int p4), .val (.long bb), .second, .val (.long cc), .second, .val (.int (0 : Int32)), .val (.int (0 : Int32)), .val (.int (0 : Int32)), .val (.int (1 : Int32)), .val (.int (0 : Int32)), .val (.int (((0 : Int32) + (0 : Int32)) + (1 : Int32))), .unset] [(.int (1 : Int32))])) _
          refine Own.go (fun t k => XS.goto X79.here hx rfl (pc0 := 140) (pc' := 144) rfl (hb hby at_140) (by decide) (by decide) k) ?_
          show Own.Fin p e below (T79.setTop (mkF m 144 #[.val (.long q1), .second, .val (.long q2), .second, .val (.long q3), .second, .val (.int p4), .val (.long bb), .second, .val (.long cc), .second, .val (.int (0 : Int32)), .val (.int (0 : Int32)), .val (.int (0 : Int32)), .val (.int (1 : Int32)), .val (.int (0 : Int32)), .val (.int (((0 : Int32) + (0 : Int32)) + (1 : Int32))), .unset] [(.int (1 : Int32))])) _
          refine Own.go (fun t k => XS.istore X79.here hx rfl (hb hby at_144) rfl (l' := #[.val (.long q1), .second, .val (.long q2), .second, .val (.long q3), .second, .val (.int p4), .val (.long bb), .second, .val (.long cc), .second, .val (.int (0 : Int32)), .val (.int (0 : Int32)), .val (.int (0 : Int32)), .val (.int (1 : Int32)), .val (.int (0 : Int32)), .val (.int (((0 : Int32) + (0 : Int32)) + (1 : Int32))), .val (.int (1 : Int32))]) rfl k) ?_
          show Own.Fin p e below (T79.setTop (mkF m 146 #[.val (.long q1), .second, .val (.long q2), .second, .val (.long q3), .second, .val (.int p4), .val (.long bb), .second, .val (.long cc), .second, .val (.int (0 : Int32)), .val (.int (0 : Int32)), .val (.int (0 : Int32)), .val (.int (1 : Int32)), .val (.int (0 : Int32)), .val (.int (((0 : Int32) + (0 : Int32)) + (1 : Int32))), .val (.int (1 : Int32))] [])) _
          refine Own.go (fun t k => XS.iload X79.here hx rfl (hb hby at_146) rfl k) ?_
          show Own.Fin p e below (T79.setTop (mkF m 148 #[.val (.long q1), .second, .val (.long q2), .second, .val (.long q3), .second, .val (.int p4), .val (.long bb), .second, .val (.long cc), .second, .val (.int (0 : Int32)), .val (.int (0 : Int32)), .val (.int (0 : Int32)), .val (.int (1 : Int32)), .val (.int (0 : Int32)), .val (.int (((0 : Int32) + (0 : Int32)) + (1 : Int32))), .val (.int (1 : Int32))] [(.int (0 : Int32))])) _
          refine Own.go (fun t k => XS.iload X79.here hx rfl (hb hby at_148) rfl k) ?_
          show Own.Fin p e below (T79.setTop (mkF m 150 #[.val (.long q1), .second, .val (.long q2), .second, .val (.long q3), .second, .val (.int p4), .val (.long bb), .second, .val (.long cc), .second, .val (.int (0 : Int32)), .val (.int (0 : Int32)), .val (.int (0 : Int32)), .val (.int (1 : Int32)), .val (.int (0 : Int32)), .val (.int (((0 : Int32) + (0 : Int32)) + (1 : Int32))), .val (.int (1 : Int32))] [(.int (0 : Int32)), (.int (0 : Int32))])) _
          have hc150_85 : (0 : Int32) = (0 : Int32) := by decide
          refine Own.go (fun t k => XS.icmpNo X79.here hx rfl (hb hby at_150) rfl (teq hc150_85).2 k) ?_
          show Own.Fin p e below (T79.setTop (mkF m 153 #[.val (.long q1), .second, .val (.long q2), .second, .val (.long q3), .second, .val (.int p4), .val (.long bb), .second, .val (.long cc), .second, .val (.int (0 : Int32)), .val (.int (0 : Int32)), .val (.int (0 : Int32)), .val (.int (1 : Int32)), .val (.int (0 : Int32)), .val (.int (((0 : Int32) + (0 : Int32)) + (1 : Int32))), .val (.int (1 : Int32))] [])) _
          refine Own.go (fun t k => XS.iload X79.here hx rfl (hb hby at_153) rfl k) ?_
          show Own.Fin p e below (T79.setTop (mkF m 155 #[.val (.long q1), .second, .val (.long q2), .second, .val (.long q3), .second, .val (.int p4), .val (.long bb), .second, .val (.long cc), .second, .val (.int (0 : Int32)), .val (.int (0 : Int32)), .val (.int (0 : Int32)), .val (.int (1 : Int32)), .val (.int (0 : Int32)), .val (.int (((0 : Int32) + (0 : Int32)) + (1 : Int32))), .val (.int (1 : Int32))] [(.int (((0 : Int32) + (0 : Int32)) + (1 : Int32)))])) _
          refine Own.go (fun t k => XS.iconst X79.here hx rfl (hb hby at_155) k) ?_
          show Own.Fin p e below (T79.setTop (mkF m 156 #[.val (.long q1), .second, .val (.long q2), .second, .val (.long q3), .second, .val (.int p4), .val (.long bb), .second, .val (.long cc), .second, .val (.int (0 : Int32)), .val (.int (0 : Int32)), .val (.int (0 : Int32)), .val (.int (1 : Int32)), .val (.int (0 : Int32)), .val (.int (((0 : Int32) + (0 : Int32)) + (1 : Int32))), .val (.int (1 : Int32))] [(.int (1 : Int32)), (.int (((0 : Int32) + (0 : Int32)) + (1 : Int32)))])) _
          have hc156_86 : (((0 : Int32) + (0 : Int32)) + (1 : Int32)) = (1 : Int32) := by decide
          refine Own.go (fun t k => XS.icmpNo X79.here hx rfl (hb hby at_156) rfl (teq hc156_86).2 k) ?_
          show Own.Fin p e below (T79.setTop (mkF m 159 #[.val (.long q1), .second, .val (.long q2), .second, .val (.long q3), .second, .val (.int p4), .val (.long bb), .second, .val (.long cc), .second, .val (.int (0 : Int32)), .val (.int (0 : Int32)), .val (.int (0 : Int32)), .val (.int (1 : Int32)), .val (.int (0 : Int32)), .val (.int (((0 : Int32) + (0 : Int32)) + (1 : Int32))), .val (.int (1 : Int32))] [])) _
          refine Own.go (fun t k => XS.iload X79.here hx rfl (hb hby at_159) rfl k) ?_
          show Own.Fin p e below (T79.setTop (mkF m 161 #[.val (.long q1), .second, .val (.long q2), .second, .val (.long q3), .second, .val (.int p4), .val (.long bb), .second, .val (.long cc), .second, .val (.int (0 : Int32)), .val (.int (0 : Int32)), .val (.int (0 : Int32)), .val (.int (1 : Int32)), .val (.int (0 : Int32)), .val (.int (((0 : Int32) + (0 : Int32)) + (1 : Int32))), .val (.int (1 : Int32))] [(.int (1 : Int32))])) _
          have hc161_87 : ¬ ((1 : Int32) = (0 : Int32)) := by decide
          refine Own.go (fun t k => XS.ifNo X79.here hx rfl (hb hby at_161) rfl ((if0 _ _).trans (feq hc161_87).1) k) ?_
          show Own.Fin p e below (T79.setTop (mkF m 164 #[.val (.long q1), .second, .val (.long q2), .second, .val (.long q3), .second, .val (.int p4), .val (.long bb), .second, .val (.long cc), .second, .val (.int (0 : Int32)), .val (.int (0 : Int32)), .val (.int (0 : Int32)), .val (.int (1 : Int32)), .val (.int (0 : Int32)), .val (.int (((0 : Int32) + (0 : Int32)) + (1 : Int32))), .val (.int (1 : Int32))] [])) _
          refine Own.go (fun t k => XS.iconst X79.here hx rfl (hb hby at_164) k) ?_
          show Own.Fin p e below (T79.setTop (mkF m 165 #[.val (.long q1), .second, .val (.long q2), .second, .val (.long q3), .second, .val (.int p4), .val (.long bb), .second, .val (.long cc), .second, .val (.int (0 : Int32)), .val (.int (0 : Int32)), .val (.int (0 : Int32)), .val (.int (1 : Int32)), .val (.int (0 : Int32)), .val (.int (((0 : Int32) + (0 : Int32)) + (1 : Int32))), .val (.int (1 : Int32))] [(.int (1 : Int32))])) _
          refine Own.go (fun t k => XS.goto X79.here hx rfl (pc0 := 165) (pc' := 169) rfl (hb hby at_165) (by decide) (by decide) k) ?_
          show Own.Fin p e below (T79.setTop (mkF m 169 #[.val (.long q1), .second, .val (.long q2), .second, .val (.long q3), .second, .val (.int p4), .val (.long bb), .second, .val (.long cc), .second, .val (.int (0 : Int32)), .val (.int (0 : Int32)), .val (.int (0 : Int32)), .val (.int (1 : Int32)), .val (.int (0 : Int32)), .val (.int (((0 : Int32) + (0 : Int32)) + (1 : Int32))), .val (.int (1 : Int32))] [(.int (1 : Int32))])) _
          refine Own.retN X79 hx Bd.notSynchronized (t := .boolean) Bd.returns (by simp) (hb hby at_169) (by decide) (by decide) ?_
          exact ⟨rfl, N79⟩
        · skip
          show Own.Fin p e below (s₁.setTop (mkF m 30 #[.val (.long q1), .second, .val (.long q2), .second, .val (.long q3), .second, .val (.int p4), .val (.long bb), .second, .val (.long cc), .second, .unset, .unset, .unset, .unset, .unset, .unset, .unset] [])) _
          refine Own.go (fun t k => XS.lloadN X0.here hx rfl (hb hby at_30) rfl k) ?_
          show Own.Fin p e below (s₁.setTop (mkF m 31 #[.val (.long q1), .second, .val (.long q2), .second, .val (.long q3), .second, .val (.int p4), .val (.long bb), .second, .val (.long cc), .second, .unset, .unset, .unset, .unset, .unset, .unset, .unset] [(.long q1)])) _
          refine Own.go (fun t k => XS.lload X0.here hx rfl (hb hby at_31) rfl k) ?_
          show Own.Fin p e below (s₁.setTop (mkF m 33 #[.val (.long q1), .second, .val (.long q2), .second, .val (.long q3), .second, .val (.int p4), .val (.long bb), .second, .val (.long cc), .second, .unset, .unset, .unset, .unset, .unset, .unset, .unset] [(.long bb), (.long q1)])) _
          refine Own.cS X0 hx hZ hown (hw _ (List.mem_of_getElem? (i := 0) rfl)) (hw _ (List.mem_of_getElem? (i := 1) rfl)) (hw _ (List.mem_of_getElem? (i := 2) rfl)) (hw _ (List.mem_of_getElem? (i := 3) rfl)) (by decide) (rm1 l Z a0 hw [] q1 bb h0 n0 Z0 ) (by decide) (W := 0) (by decide) (argsL := [(.long q1), (.long bb)]) (rest := []) (by rw [hml]; rfl) (lenOf pd_0 rfl) rfl (Nat.le_of_eq rfl) (hb hby at_33) e0 (by decide) (by decide) ?_
          intro T89 L89 v89 X89 hQ89
          obtain ⟨rfl, N89q, e89⟩ := hQ89
          have N89 := Fr.app N0 N89q
          rw [own_co0 hab.2.2]
          show Own.Fin p e below (T89.setTop (mkF m 36 #[.val (.long q1), .second, .val (.long q2), .second, .val (.long q3), .second, .val (.int p4), .val (.long bb), .second, .val (.long cc), .second, .unset, .unset, .unset, .unset, .unset, .unset, .unset] [(.int (0 : Int32))])) _
          refine Own.go (fun t k => XS.istore X89.here hx rfl (hb hby at_36) rfl (l' := #[.val (.long q1), .second, .val (.long q2), .second, .val (.long q3), .second, .val (.int p4), .val (.long bb), .second, .val (.long cc), .second, .val (.int (0 : Int32)), .unset, .unset, .unset, .unset, .unset, .unset]) rfl k) ?_
          show Own.Fin p e below (T89.setTop (mkF m 38 #[.val (.long q1), .second, .val (.long q2), .second, .val (.long q3), .second, .val (.int p4), .val (.long bb), .second, .val (.long cc), .second, .val (.int (0 : Int32)), .unset, .unset, .unset, .unset, .unset, .unset] [])) _
          refine Own.go (fun t k => XS.lload X89.here hx rfl (hb hby at_38) rfl k) ?_
          show Own.Fin p e below (T89.setTop (mkF m 40 #[.val (.long q1), .second, .val (.long q2), .second, .val (.long q3), .second, .val (.int p4), .val (.long bb), .second, .val (.long cc), .second, .val (.int (0 : Int32)), .unset, .unset, .unset, .unset, .unset, .unset] [(.long bb)])) _
          refine Own.go (fun t k => XS.lloadN X89.here hx rfl (hb hby at_40) rfl k) ?_
          show Own.Fin p e below (T89.setTop (mkF m 41 #[.val (.long q1), .second, .val (.long q2), .second, .val (.long q3), .second, .val (.int p4), .val (.long bb), .second, .val (.long cc), .second, .val (.int (0 : Int32)), .unset, .unset, .unset, .unset, .unset, .unset] [(.long q1), (.long bb)])) _
          refine Own.cS X89 hx hZ hown (hw _ (List.mem_of_getElem? (i := 0) rfl)) (hw _ (List.mem_of_getElem? (i := 1) rfl)) (hw _ (List.mem_of_getElem? (i := 2) rfl)) (hw _ (List.mem_of_getElem? (i := 3) rfl)) (by decide) (rm1 l Z a0 hw [] bb q1 h0 n0 Z0 ) (by decide) (W := 0) (by decide) (argsL := [(.long bb), (.long q1)]) (rest := []) (by rw [hml]; rfl) (lenOf pd_0 rfl) rfl (Nat.le_of_eq rfl) (hb hby at_41) e89 (by decide) (by decide) ?_
          intro T90 L90 v90 X90 hQ90
          obtain ⟨rfl, N90q, e90⟩ := hQ90
          have N90 := Fr.app N89 N90q
          rw [own_co0 hab.2.1]
          show Own.Fin p e below (T90.setTop (mkF m 44 #[.val (.long q1), .second, .val (.long q2), .second, .val (.long q3), .second, .val (.int p4), .val (.long bb), .second, .val (.long cc), .second, .val (.int (0 : Int32)), .unset, .unset, .unset, .unset, .unset, .unset] [(.int (0 : Int32))])) _
          refine Own.go (fun t k => XS.istore X90.here hx rfl (hb hby at_44) rfl (l' := #[.val (.long q1), .second, .val (.long q2), .second, .val (.long q3), .second, .val (.int p4), .val (.long bb), .second, .val (.long cc), .second, .val (.int (0 : Int32)), .val (.int (0 : Int32)), .unset, .unset, .unset, .unset, .unset]) rfl k) ?_
          show Own.Fin p e below (T90.setTop (mkF m 46 #[.val (.long q1), .second, .val (.long q2), .second, .val (.long q3), .second, .val (.int p4), .val (.long bb), .second, .val (.long cc), .second, .val (.int (0 : Int32)), .val (.int (0 : Int32)), .unset, .unset, .unset, .unset, .unset] [])) _
          refine Own.go (fun t k => XS.lload X90.here hx rfl (hb hby at_46) rfl k) ?_
          show Own.Fin p e below (T90.setTop (mkF m 48 #[.val (.long q1), .second, .val (.long q2), .second, .val (.long q3), .second, .val (.int p4), .val (.long bb), .second, .val (.long cc), .second, .val (.int (0 : Int32)), .val (.int (0 : Int32)), .unset, .unset, .unset, .unset, .unset] [(.long bb)])) _
          refine Own.go (fun t k => XS.lload X90.here hx rfl (hb hby at_48) rfl k) ?_
          show Own.Fin p e below (T90.setTop (mkF m 50 #[.val (.long q1), .second, .val (.long q2), .second, .val (.long q3), .second, .val (.int p4), .val (.long bb), .second, .val (.long cc), .second, .val (.int (0 : Int32)), .val (.int (0 : Int32)), .unset, .unset, .unset, .unset, .unset] [(.long cc), (.long bb)])) _
          refine Own.cS X90 hx hZ hown (hw _ (List.mem_of_getElem? (i := 0) rfl)) (hw _ (List.mem_of_getElem? (i := 1) rfl)) (hw _ (List.mem_of_getElem? (i := 2) rfl)) (hw _ (List.mem_of_getElem? (i := 3) rfl)) (by decide) (rm1 l Z a0 hw [] bb cc h0 n0 Z0 ) (by decide) (W := 0) (by decide) (argsL := [(.long bb), (.long cc)]) (rest := []) (by rw [hml]; rfl) (lenOf pd_0 rfl) rfl (Nat.le_of_eq rfl) (hb hby at_50) e90 (by decide) (by decide) ?_
          intro T91 L91 v91 X91 hQ91
          obtain ⟨rfl, N91q, e91⟩ := hQ91
          have N91 := Fr.app N90 N91q
          rw [own_co0 hbc]
          show Own.Fin p e below (T91.setTop (mkF m 53 #[.val (.long q1), .second, .val (.long q2), .second, .val (.long q3), .second, .val (.int p4), .val (.long bb), .second, .val (.long cc), .second, .val (.int (0 : Int32)), .val (.int (0 : Int32)), .unset, .unset, .unset, .unset, .unset] [(.int (0 : Int32))])) _
          refine Own.go (fun t k => XS.istore X91.here hx rfl (hb hby at_53) rfl (l' := #[.val (.long q1), .second, .val (.long q2), .second, .val (.long q3), .second, .val (.int p4), .val (.long bb), .second, .val (.long cc), .second, .val (.int (0 : Int32)), .val (.int (0 : Int32)), .val (.int (0 : Int32)), .unset, .unset, .unset, .unset]) rfl k) ?_
          show Own.Fin p e below (T91.setTop (mkF m 55 #[.val (.long q1), .second, .val (.long q2), .second, .val (.long q3), .second, .val (.int p4), .val (.long bb), .second, .val (.long cc), .second, .val (.int (0 : Int32)), .val (.int (0 : Int32)), .val (.int (0 : Int32)), .unset, .unset, .unset, .unset] [])) _
          refine Own.go (fun t k => XS.lloadN X91.here hx rfl (hb hby at_55) rfl k) ?_
          show Own.Fin p e below (T91.setTop (mkF m 56 #[.val (.long q1), .second, .val (.long q2), .second, .val (.long q3), .second, .val (.int p4), .val (.long bb), .second, .val (.long cc), .second, .val (.int (0 : Int32)), .val (.int (0 : Int32)), .val (.int (0 : Int32)), .unset, .unset, .unset, .unset] [(.long q1)])) _
          refine Own.go (fun t k => XS.lload X91.here hx rfl (hb hby at_56) rfl k) ?_
          show Own.Fin p e below (T91.setTop (mkF m 58 #[.val (.long q1), .second, .val (.long q2), .second, .val (.long q3), .second, .val (.int p4), .val (.long bb), .second, .val (.long cc), .second, .val (.int (0 : Int32)), .val (.int (0 : Int32)), .val (.int (0 : Int32)), .unset, .unset, .unset, .unset] [(.long cc), (.long q1)])) _
          refine Own.cS X91 hx hZ hown (hw _ (List.mem_of_getElem? (i := 0) rfl)) (hw _ (List.mem_of_getElem? (i := 1) rfl)) (hw _ (List.mem_of_getElem? (i := 2) rfl)) (hw _ (List.mem_of_getElem? (i := 3) rfl)) (by decide) (rm1 l Z a0 hw [] q1 cc h0 n0 Z0 ) (by decide) (W := 0) (by decide) (argsL := [(.long q1), (.long cc)]) (rest := []) (by rw [hml]; rfl) (lenOf pd_0 rfl) rfl (Nat.le_of_eq rfl) (hb hby at_58) e91 (by decide) (by decide) ?_
          intro T92 L92 v92 X92 hQ92
          obtain ⟨rfl, N92q, e92⟩ := hQ92
          have N92 := Fr.app N91 N92q
          rw [own_co0 hac]
          show Own.Fin p e below (T92.setTop (mkF m 61 #[.val (.long q1), .second, .val (.long q2), .second, .val (.long q3), .second, .val (.int p4), .val (.long bb), .second, .val (.long cc), .second, .val (.int (0 : Int32)), .val (.int (0 : Int32)), .val (.int (0 : Int32)), .unset, .unset, .unset, .unset] [(.int (0 : Int32))])) _
          refine Own.go (fun t k => XS.istore X92.here hx rfl (hb hby at_61) rfl (l' := #[.val (.long q1), .second, .val (.long q2), .second, .val (.long q3), .second, .val (.int p4), .val (.long bb), .second, .val (.long cc), .second, .val (.int (0 : Int32)), .val (.int (0 : Int32)), .val (.int (0 : Int32)), .val (.int (0 : Int32)), .unset, .unset, .unset]) rfl k) ?_
          show Own.Fin p e below (T92.setTop (mkF m 63 #[.val (.long q1), .second, .val (.long q2), .second, .val (.long q3), .second, .val (.int p4), .val (.long bb), .second, .val (.long cc), .second, .val (.int (0 : Int32)), .val (.int (0 : Int32)), .val (.int (0 : Int32)), .val (.int (0 : Int32)), .unset, .unset, .unset] [])) _
          refine Own.go (fun t k => XS.lloadN X92.here hx rfl (hb hby at_63) rfl k) ?_
          show Own.Fin p e below (T92.setTop (mkF m 64 #[.val (.long q1), .second, .val (.long q2), .second, .val (.long q3), .second, .val (.int p4), .val (.long bb), .second, .val (.long cc), .second, .val (.int (0 : Int32)), .val (.int (0 : Int32)), .val (.int (0 : Int32)), .val (.int (0 : Int32)), .unset, .unset, .unset] [(.long q1)])) _
          refine Own.go (fun t k => XS.lload X92.here hx rfl (hb hby at_64) rfl k) ?_
          show Own.Fin p e below (T92.setTop (mkF m 66 #[.val (.long q1), .second, .val (.long q2), .second, .val (.long q3), .second, .val (.int p4), .val (.long bb), .second, .val (.long cc), .second, .val (.int (0 : Int32)), .val (.int (0 : Int32)), .val (.int (0 : Int32)), .val (.int (0 : Int32)), .unset, .unset, .unset] [(.long bb), (.long q1)])) _
          refine Own.cS X92 hx hZ hown (hw _ (List.mem_of_getElem? (i := 4) rfl)) (hw _ (List.mem_of_getElem? (i := 5) rfl)) (hw _ (List.mem_of_getElem? (i := 6) rfl)) (hw _ (List.mem_of_getElem? (i := 7) rfl)) (by decide) (rm2 l Z a0 hw [] q1 bb h0 n0 Z0 ) (by decide) (W := 0) (by decide) (argsL := [(.long q1), (.long bb)]) (rest := []) (by rw [hml]; rfl) (lenOf pd_1 rfl) rfl (Nat.le_of_eq rfl) (hb hby at_66) e92 (by decide) (by decide) ?_
          intro T93 L93 v93 X93 hQ93
          obtain ⟨rfl, N93q, e93⟩ := hQ93
          have N93 := Fr.app N92 N93q
          rw [own_mx0 hab.2.1]
          show Own.Fin p e below (T93.setTop (mkF m 69 #[.val (.long q1), .second, .val (.long q2), .second, .val (.long q3), .second, .val (.int p4), .val (.long bb), .second, .val (.long cc), .second, .val (.int (0 : Int32)), .val (.int (0 : Int32)), .val (.int (0 : Int32)), .val (.int (0 : Int32)), .unset, .unset, .unset] [(.long q1)])) _
          refine Own.go (fun t k => XS.lloadN X93.here hx rfl (hb hby at_69) rfl k) ?_
          show Own.Fin p e below (T93.setTop (mkF m 70 #[.val (.long q1), .second, .val (.long q2), .second, .val (.long q3), .second, .val (.int p4), .val (.long bb), .second, .val (.long cc), .second, .val (.int (0 : Int32)), .val (.int (0 : Int32)), .val (.int (0 : Int32)), .val (.int (0 : Int32)), .unset, .unset, .unset] [(.long q1), (.long q1)])) _
          refine Own.go (fun t k => XS.lcmp X93.here hx rfl (hb hby at_70) rfl k) ?_
          show Own.Fin p e below (T93.setTop (mkF m 71 #[.val (.long q1), .second, .val (.long q2), .second, .val (.long q3), .second, .val (.int p4), .val (.long bb), .second, .val (.long cc), .second, .val (.int (0 : Int32)), .val (.int (0 : Int32)), .val (.int (0 : Int32)), .val (.int (0 : Int32)), .unset, .unset, .unset] [(.int (lcmpW q1 q1))])) _
          have hc71_93 : (lcmpW q1 q1) = (0 : Int32) := (lw_eq _ _).mpr rfl
          refine Own.go (fun t k => XS.ifNo X93.here hx rfl (hb hby at_71) rfl ((if0 _ _).trans (teq hc71_93).2) k) ?_
          show Own.Fin p e below (T93.setTop (mkF m 74 #[.val (.long q1), .second, .val (.long q2), .second, .val (.long q3), .second, .val (.int p4), .val (.long bb), .second, .val (.long cc), .second, .val (.int (0 : Int32)), .val (.int (0 : Int32)), .val (.int (0 : Int32)), .val (.int (0 : Int32)), .unset, .unset, .unset] [])) _
          refine Own.go (fun t k => XS.lloadN X93.here hx rfl (hb hby at_74) rfl k) ?_
          show Own.Fin p e below (T93.setTop (mkF m 75 #[.val (.long q1), .second, .val (.long q2), .second, .val (.long q3), .second, .val (.int p4), .val (.long bb), .second, .val (.long cc), .second, .val (.int (0 : Int32)), .val (.int (0 : Int32)), .val (.int (0 : Int32)), .val (.int (0 : Int32)), .unset, .unset, .unset] [(.long q1)])) _
          refine Own.go (fun t k => XS.lload X93.here hx rfl (hb hby at_75) rfl k) ?_
          show Own.Fin p e below (T93.setTop (mkF m 77 #[.val (.long q1), .second, .val (.long q2), .second, .val (.long q3), .second, .val (.int p4), .val (.long bb), .second, .val (.long cc), .second, .val (.int (0 : Int32)), .val (.int (0 : Int32)), .val (.int (0 : Int32)), .val (.int (0 : Int32)), .unset, .unset, .unset] [(.long bb), (.long q1)])) _
          refine Own.go (fun t k => XS.lcmp X93.here hx rfl (hb hby at_77) rfl k) ?_
          show Own.Fin p e below (T93.setTop (mkF m 78 #[.val (.long q1), .second, .val (.long q2), .second, .val (.long q3), .second, .val (.int p4), .val (.long bb), .second, .val (.long cc), .second, .val (.int (0 : Int32)), .val (.int (0 : Int32)), .val (.int (0 : Int32)), .val (.int (0 : Int32)), .unset, .unset, .unset] [(.int (lcmpW q1 bb))])) _
          have hc78_94 : (lcmpW q1 bb) = (0 : Int32) := (lw_eq _ _).mpr hab.1
          refine Own.go (fun t k => XS.ifYes X93.here hx rfl (pc0 := 78) (pc' := 85) rfl (hb hby at_78) rfl ((if0 _ _).trans (teq hc78_94).1) (by decide) (by decide) k) ?_
          show Own.Fin p e below (T93.setTop (mkF m 85 #[.val (.long q1), .second, .val (.long q2), .second, .val (.long q3), .second, .val (.int p4), .val (.long bb), .second, .val (.long cc), .second, .val (.int (0 : Int32)), .val (.int (0 : Int32)), .val (.int (0 : Int32)), .val (.int (0 : Int32)), .unset, .unset, .unset] [])) _
          refine Own.go (fun t k => XS.iconst X93.here hx rfl (hb hby at_85) k) ?_
          show Own.Fin p e below (T93.setTop (mkF m 86 #[.val (.long q1), .second, .val (.long q2), .second, .val (.long q3), .second, .val (.int p4), .val (.long bb), .second, .val (.long cc), .second, .val (.int (0 : Int32)), .val (.int (0 : Int32)), .val (.int (0 : Int32)), .val (.int (0 : Int32)), .unset, .unset, .unset] [(.int (0 : Int32))])) _
          refine Own.go (fun t k => XS.istore X93.here hx rfl (hb hby at_86) rfl (l' := #[.val (.long q1), .second, .val (.long q2), .second, .val (.long q3), .second, .val (.int p4), .val (.long bb), .second, .val (.long cc), .second, .val (.int (0 : Int32)), .val (.int (0 : Int32)), .val (.int (0 : Int32)), .val (.int (0 : Int32)), .val (.int (0 : Int32)), .unset, .unset]) rfl k) ?_
          show Own.Fin p e below (T93.setTop (mkF m 88 #[.val (.long q1), .second, .val (.long q2), .second, .val (.long q3), .second, .val (.int p4), .val (.long bb), .second, .val (.long cc), .second, .val (.int (0 : Int32)), .val (.int (0 : Int32)), .val (.int (0 : Int32)), .val (.int (0 : Int32)), .val (.int (0 : Int32)), .unset, .unset] [])) _
          refine Own.go (fun t k => XS.iload X93.here hx rfl (hb hby at_88) rfl k) ?_
          show Own.Fin p e below (T93.setTop (mkF m 90 #[.val (.long q1), .second, .val (.long q2), .second, .val (.long q3), .second, .val (.int p4), .val (.long bb), .second, .val (.long cc), .second, .val (.int (0 : Int32)), .val (.int (0 : Int32)), .val (.int (0 : Int32)), .val (.int (0 : Int32)), .val (.int (0 : Int32)), .unset, .unset] [(.int (0 : Int32))])) _
          have hc90_95 : (0 : Int32) = (0 : Int32) := by decide
          refine Own.go (fun t k => XS.ifYes X93.here hx rfl (pc0 := 90) (pc' := 97) rfl (hb hby at_90) rfl ((if0 _ _).trans (teq hc90_95).1) (by decide) (by decide) k) ?_
          show Own.Fin p e below (T93.setTop (mkF m 97 #[.val (.long q1), .second, .val (.long q2), .second, .val (.long q3), .second, .val (.int p4), .val (.long bb), .second, .val (.long cc), .second, .val (.int (0 : Int32)), .val (.int (0 : Int32)), .val (.int (0 : Int32)), .val (.int (0 : Int32)), .val (.int (0 : Int32)), .unset, .unset] [])) _
          refine Own.go (fun t k => XS.iconst X93.here hx rfl (hb hby at_97) k) ?_
          show Own.Fin p e below (T93.setTop (mkF m 98 #[.val (.long q1), .second, .val (.long q2), .second, .val (.long q3), .second, .val (.int p4), .val (.long bb), .second, .val (.long cc), .second, .val (.int (0 : Int32)), .val (.int (0 : Int32)), .val (.int (0 : Int32)), .val (.int (0 : Int32)), .val (.int (0 : Int32)), .unset, .unset] [(.int (0 : Int32))])) _
          refine Own.go (fun t k => XS.iload X93.here hx rfl (hb hby at_98) rfl k) ?_
          show Own.Fin p e below (T93.setTop (mkF m 100 #[.val (.long q1), .second, .val (.long q2), .second, .val (.long q3), .second, .val (.int p4), .val (.long bb), .second, .val (.long cc), .second, .val (.int (0 : Int32)), .val (.int (0 : Int32)), .val (.int (0 : Int32)), .val (.int (0 : Int32)), .val (.int (0 : Int32)), .unset, .unset] [(.int (0 : Int32)), (.int (0 : Int32))])) _
          have hc100_96 : (0 : Int32) = (0 : Int32) := by decide
          refine Own.go (fun t k => XS.ifYes X93.here hx rfl (pc0 := 100) (pc' := 107) rfl (hb hby at_100) rfl ((if0 _ _).trans (teq hc100_96).1) (by decide) (by decide) k) ?_
          show Own.Fin p e below (T93.setTop (mkF m 107 #[.val (.long q1), .second, .val (.long q2), .second, .val (.long q3), .second, .val (.int p4), .val (.long bb), .second, .val (.long cc), .second, .val (.int (0 : Int32)), .val (.int (0 : Int32)), .val (.int (0 : Int32)), .val (.int (0 : Int32)), .val (.int (0 : Int32)), .unset, .unset] [(.int (0 : Int32))])) _
          refine Own.go (fun t k => XS.iconst X93.here hx rfl (hb hby at_107) k) ?_
          show Own.Fin p e below (T93.setTop (mkF m 108 #[.val (.long q1), .second, .val (.long q2), .second, .val (.long q3), .second, .val (.int p4), .val (.long bb), .second, .val (.long cc), .second, .val (.int (0 : Int32)), .val (.int (0 : Int32)), .val (.int (0 : Int32)), .val (.int (0 : Int32)), .val (.int (0 : Int32)), .unset, .unset] [(.int (0 : Int32)), (.int (0 : Int32))])) _
          refine Own.go (fun t k => XS.iadd X93.here hx rfl (hb hby at_108) rfl k) ?_
          show Own.Fin p e below (T93.setTop (mkF m 109 #[.val (.long q1), .second, .val (.long q2), .second, .val (.long q3), .second, .val (.int p4), .val (.long bb), .second, .val (.long cc), .second, .val (.int (0 : Int32)), .val (.int (0 : Int32)), .val (.int (0 : Int32)), .val (.int (0 : Int32)), .val (.int (0 : Int32)), .unset, .unset] [(.int ((0 : Int32) + (0 : Int32)))])) _
          refine Own.go (fun t k => XS.lloadN X93.here hx rfl (hb hby at_109) rfl k) ?_
          show Own.Fin p e below (T93.setTop (mkF m 110 #[.val (.long q1), .second, .val (.long q2), .second, .val (.long q3), .second, .val (.int p4), .val (.long bb), .second, .val (.long cc), .second, .val (.int (0 : Int32)), .val (.int (0 : Int32)), .val (.int (0 : Int32)), .val (.int (0 : Int32)), .val (.int (0 : Int32)), .unset, .unset] [(.long q1), (.int ((0 : Int32) + (0 : Int32)))])) _
          refine Own.go (fun t k => XS.lload X93.here hx rfl (hb hby at_110) rfl k) ?_
          show Own.Fin p e below (T93.setTop (mkF m 112 #[.val (.long q1), .second, .val (.long q2), .second, .val (.long q3), .second, .val (.int p4), .val (.long bb), .second, .val (.long cc), .second, .val (.int (0 : Int32)), .val (.int (0 : Int32)), .val (.int (0 : Int32)), .val (.int (0 : Int32)), .val (.int (0 : Int32)), .unset, .unset] [(.long bb), (.long q1), (.int ((0 : Int32) + (0 : Int32)))])) _
          refine Own.go (fun t k => XS.lcmp X93.here hx rfl (hb hby at_112) rfl k) ?_
          show Own.Fin p e below (T93.setTop (mkF m 113 #[.val (.long q1), .second, .val (.long q2), .second, .val (.long q3), .second, .val (.int p4), .val (.long bb), .second, .val (.long cc), .second, .val (.int (0 : Int32)), .val (.int (0 : Int32)), .val (.int (0 : Int32)), .val (.int (0 : Int32)), .val (.int (0 : Int32)), .unset, .unset] [(.int (lcmpW q1 bb)), (.int ((0 : Int32) + (0 : Int32)))])) _
          have hc113_97 : (lcmpW q1 bb) = (0 : Int32) := (lw_eq _ _).mpr hab.1
          refine Own.go (fun t k => XS.ifNo X93.here hx rfl (hb hby at_113) rfl ((if0 _ _).trans (teq hc113_97).2) k) ?_
          show Own.Fin p e below (T93.setTop (mkF m 116 #[.val (.long q1), .second, .val (.long q2), .second, .val (.long q3), .second, .val (.int p4), .val (.long bb), .second, .val (.long cc), .second, .val (.int (0 : Int32)), .val (.int (0 : Int32)), .val (.int (0 : Int32)), .val (.int (0 : Int32)), .val (.int (0 : Int32)), .unset, .unset] [(.int ((0 : Int32) + (0 : Int32)))])) _
          refine Own.go (fun t k => XS.iconst X93.here hx rfl (hb hby at_116) k) ?_
          show Own.Fin p e below (T93.setTop (mkF m 117 #[.val (.long q1), .second, .val (.long q2), .second, .val (.long q3), .second, .val (.int p4), .val (.long bb), .second, .val (.long cc), .second, .val (.int (0 : Int32)), .val (.int (0 : Int32)), .val (.int (0 : Int32)), .val (.int (0 : Int32)), .val (.int (0 : Int32)), .unset, .unset] [(.int (1 : Int32)), (.int ((0 : Int32) + (0 : Int32)))])) _
          refine Own.go (fun t k => XS.goto X93.here hx rfl (pc0 := 117) (pc' := 121) rfl (hb hby at_117) (by decide) (by decide) k) ?_
          show Own.Fin p e below (T93.setTop (mkF m 121 #[.val (.long q1), .second, .val (.long q2), .second, .val (.long q3), .second, .val (.int p4), .val (.long bb), .second, .val (.long cc), .second, .val (.int (0 : Int32)), .val (.int (0 : Int32)), .val (.int (0 : Int32)), .val (.int (0 : Int32)), .val (.int (0 : Int32)), .unset, .unset] [(.int (1 : Int32)), (.int ((0 : Int32) + (0 : Int32)))])) _
          refine Own.go (fun t k => XS.iadd X93.here hx rfl (hb hby at_121) rfl k) ?_
          show Own.Fin p e below (T93.setTop (mkF m 122 #[.val (.long q1), .second, .val (.long q2), .second, .val (.long q3), .second, .val (.int p4), .val (.long bb), .second, .val (.long cc), .second, .val (.int (0 : Int32)), .val (.int (0 : Int32)), .val (.int (0 : Int32)), .val (.int (0 : Int32)), .val (.int (0 : Int32)), .unset, .unset] [(.int (((0 : Int32) + (0 : Int32)) + (1 : Int32)))])) _
          refine Own.go (fun t k => XS.istore X93.here hx rfl (hb hby at_122) rfl (l' := #[.val (.long q1), .second, .val (.long q2), .second, .val (.long q3), .second, .val (.int p4), .val (.long bb), .second, .val (.long cc), .second, .val (.int (0 : Int32)), .val (.int (0 : Int32)), .val (.int (0 : Int32)), .val (.int (0 : Int32)), .val (.int (0 : Int32)), .val (.int (((0 : Int32) + (0 : Int32)) + (1 : Int32))), .unset]) rfl k) ?_
          show Own.Fin p e below (T93.setTop (mkF m 124 #[.val (.long q1), .second, .val (.long q2), .second, .val (.long q3), .second, .val (.int p4), .val (.long bb), .second, .val (.long cc), .second, .val (.int (0 : Int32)), .val (.int (0 : Int32)), .val (.int (0 : Int32)), .val (.int (0 : Int32)), .val (.int (0 : Int32)), .val (.int (((0 : Int32) + (0 : Int32)) + (1 : Int32))), .unset] [])) _
          refine Own.go (fun t k => XS.iload X93.here hx rfl (hb hby at_124) rfl k) ?_
          show Own.Fin p e below (T93.setTop (mkF m 126 #[.val (.long q1), .second, .val (.long q2), .second, .val (.long q3), .second, .val (.int p4), .val (.long bb), .second, .val (.long cc), .second, .val (.int (0 : Int32)), .val (.int (0 : Int32)), .val (.int (0 : Int32)), .val (.int (0 : Int32)), .val (.int (0 : Int32)), .val (.int (((0 : Int32) + (0 : Int32)) + (1 : Int32))), .unset] [(.int (0 : Int32))])) _
          have hc126_98 : (0 : Int32) = (0 : Int32) := by decide
          refine Own.go (fun t k => XS.ifYes X93.here hx rfl (pc0 := 126) (pc' := 139) rfl (hb hby at_126) rfl ((if0 _ _).trans (teq hc126_98).1) (by decide) (by decide) k) ?_
          show Own.Fin p e below (T93.setTop (mkF m 139 #[.val (.long q1), .second, .val (.long q2), .second, .val (.long q3), .second, .val (.int p4), .val (.long bb), .second, .val (.long cc), .second, .val (.int (0 : Int32)), .val (.int (0 : Int32)), .val (.int (0 : Int32)), .val (.int (0 : Int32)), .val (.int (0 : Int32)), .val (.int (((0 : Int32) + (0 : Int32)) + (1 : Int32))), .unset] [])) _
          refine Own.go (fun t k => XS.iconst X93.here hx rfl (hb hby at_139) k) ?_
          show Own.Fin p e below (T93.setTop (mkF m 140 #[.val (.long q1), .second, .val (.long q2), .second, .val (.long q3), .second, .val (.int p4), .val (.long bb), .second, .val (.long cc), .second, .val (.int (0 : Int32)), .val (.int (0 : Int32)), .val (.int (0 : Int32)), .val (.int (0 : Int32)), .val (.int (0 : Int32)), .val (.int (((0 : Int32) + (0 : Int32)) + (1 : Int32))), .unset] [(.int (1 : Int32))])) _
          refine Own.go (fun t k => XS.goto X93.here hx rfl (pc0 := 140) (pc' := 144) rfl (hb hby at_140) (by decide) (by decide) k) ?_
          show Own.Fin p e below (T93.setTop (mkF m 144 #[.val (.long q1), .second, .val (.long q2), .second, .val (.long q3), .second, .val (.int p4), .val (.long bb), .second, .val (.long cc), .second, .val (.int (0 : Int32)), .val (.int (0 : Int32)), .val (.int (0 : Int32)), .val (.int (0 : Int32)), .val (.int (0 : Int32)), .val (.int (((0 : Int32) + (0 : Int32)) + (1 : Int32))), .unset] [(.int (1 : Int32))])) _
          refine Own.go (fun t k => XS.istore X93.here hx rfl (hb hby at_144) rfl (l' := #[.val (.long q1), .second, .val (.long q2), .second, .val (.long q3), .second, .val (.int p4), .val (.long bb), .second, .val (.long cc), .second, .val (.int (0 : Int32)), .val (.int (0 : Int32)), .val (.int (0 : Int32)), .val (.int (0 : Int32)), .val (.int (0 : Int32)), .val (.int (((0 : Int32) + (0 : Int32)) + (1 : Int32))), .val (.int (1 : Int32))]) rfl k) ?_
          show Own.Fin p e below (T93.setTop (mkF m 146 #[.val (.long q1), .second, .val (.long q2), .second, .val (.long q3), .second, .val (.int p4), .val (.long bb), .second, .val (.long cc), .second, .val (.int (0 : Int32)), .val (.int (0 : Int32)), .val (.int (0 : Int32)), .val (.int (0 : Int32)), .val (.int (0 : Int32)), .val (.int (((0 : Int32) + (0 : Int32)) + (1 : Int32))), .val (.int (1 : Int32))] [])) _
          refine Own.go (fun t k => XS.iload X93.here hx rfl (hb hby at_146) rfl k) ?_
          show Own.Fin p e below (T93.setTop (mkF m 148 #[.val (.long q1), .second, .val (.long q2), .second, .val (.long q3), .second, .val (.int p4), .val (.long bb), .second, .val (.long cc), .second, .val (.int (0 : Int32)), .val (.int (0 : Int32)), .val (.int (0 : Int32)), .val (.int (0 : Int32)), .val (.int (0 : Int32)), .val (.int (((0 : Int32) + (0 : Int32)) + (1 : Int32))), .val (.int (1 : Int32))] [(.int (0 : Int32))])) _
          refine Own.go (fun t k => XS.iload X93.here hx rfl (hb hby at_148) rfl k) ?_
          show Own.Fin p e below (T93.setTop (mkF m 150 #[.val (.long q1), .second, .val (.long q2), .second, .val (.long q3), .second, .val (.int p4), .val (.long bb), .second, .val (.long cc), .second, .val (.int (0 : Int32)), .val (.int (0 : Int32)), .val (.int (0 : Int32)), .val (.int (0 : Int32)), .val (.int (0 : Int32)), .val (.int (((0 : Int32) + (0 : Int32)) + (1 : Int32))), .val (.int (1 : Int32))] [(.int (0 : Int32)), (.int (0 : Int32))])) _
          have hc150_99 : (0 : Int32) = (0 : Int32) := by decide
          refine Own.go (fun t k => XS.icmpNo X93.here hx rfl (hb hby at_150) rfl (teq hc150_99).2 k) ?_
          show Own.Fin p e below (T93.setTop (mkF m 153 #[.val (.long q1), .second, .val (.long q2), .second, .val (.long q3), .second, .val (.int p4), .val (.long bb), .second, .val (.long cc), .second, .val (.int (0 : Int32)), .val (.int (0 : Int32)), .val (.int (0 : Int32)), .val (.int (0 : Int32)), .val (.int (0 : Int32)), .val (.int (((0 : Int32) + (0 : Int32)) + (1 : Int32))), .val (.int (1 : Int32))] [])) _
          refine Own.go (fun t k => XS.iload X93.here hx rfl (hb hby at_153) rfl k) ?_
          show Own.Fin p e below (T93.setTop (mkF m 155 #[.val (.long q1), .second, .val (.long q2), .second, .val (.long q3), .second, .val (.int p4), .val (.long bb), .second, .val (.long cc), .second, .val (.int (0 : Int32)), .val (.int (0 : Int32)), .val (.int (0 : Int32)), .val (.int (0 : Int32)), .val (.int (0 : Int32)), .val (.int (((0 : Int32) + (0 : Int32)) + (1 : Int32))), .val (.int (1 : Int32))] [(.int (((0 : Int32) + (0 : Int32)) + (1 : Int32)))])) _
          refine Own.go (fun t k => XS.iconst X93.here hx rfl (hb hby at_155) k) ?_
          show Own.Fin p e below (T93.setTop (mkF m 156 #[.val (.long q1), .second, .val (.long q2), .second, .val (.long q3), .second, .val (.int p4), .val (.long bb), .second, .val (.long cc), .second, .val (.int (0 : Int32)), .val (.int (0 : Int32)), .val (.int (0 : Int32)), .val (.int (0 : Int32)), .val (.int (0 : Int32)), .val (.int (((0 : Int32) + (0 : Int32)) + (1 : Int32))), .val (.int (1 : Int32))] [(.int (1 : Int32)), (.int (((0 : Int32) + (0 : Int32)) + (1 : Int32)))])) _
          have hc156_100 : (((0 : Int32) + (0 : Int32)) + (1 : Int32)) = (1 : Int32) := by decide
          refine Own.go (fun t k => XS.icmpNo X93.here hx rfl (hb hby at_156) rfl (teq hc156_100).2 k) ?_
          show Own.Fin p e below (T93.setTop (mkF m 159 #[.val (.long q1), .second, .val (.long q2), .second, .val (.long q3), .second, .val (.int p4), .val (.long bb), .second, .val (.long cc), .second, .val (.int (0 : Int32)), .val (.int (0 : Int32)), .val (.int (0 : Int32)), .val (.int (0 : Int32)), .val (.int (0 : Int32)), .val (.int (((0 : Int32) + (0 : Int32)) + (1 : Int32))), .val (.int (1 : Int32))] [])) _
          refine Own.go (fun t k => XS.iload X93.here hx rfl (hb hby at_159) rfl k) ?_
          show Own.Fin p e below (T93.setTop (mkF m 161 #[.val (.long q1), .second, .val (.long q2), .second, .val (.long q3), .second, .val (.int p4), .val (.long bb), .second, .val (.long cc), .second, .val (.int (0 : Int32)), .val (.int (0 : Int32)), .val (.int (0 : Int32)), .val (.int (0 : Int32)), .val (.int (0 : Int32)), .val (.int (((0 : Int32) + (0 : Int32)) + (1 : Int32))), .val (.int (1 : Int32))] [(.int (1 : Int32))])) _
          have hc161_101 : ¬ ((1 : Int32) = (0 : Int32)) := by decide
          refine Own.go (fun t k => XS.ifNo X93.here hx rfl (hb hby at_161) rfl ((if0 _ _).trans (feq hc161_101).1) k) ?_
          show Own.Fin p e below (T93.setTop (mkF m 164 #[.val (.long q1), .second, .val (.long q2), .second, .val (.long q3), .second, .val (.int p4), .val (.long bb), .second, .val (.long cc), .second, .val (.int (0 : Int32)), .val (.int (0 : Int32)), .val (.int (0 : Int32)), .val (.int (0 : Int32)), .val (.int (0 : Int32)), .val (.int (((0 : Int32) + (0 : Int32)) + (1 : Int32))), .val (.int (1 : Int32))] [])) _
          refine Own.go (fun t k => XS.iconst X93.here hx rfl (hb hby at_164) k) ?_
          show Own.Fin p e below (T93.setTop (mkF m 165 #[.val (.long q1), .second, .val (.long q2), .second, .val (.long q3), .second, .val (.int p4), .val (.long bb), .second, .val (.long cc), .second, .val (.int (0 : Int32)), .val (.int (0 : Int32)), .val (.int (0 : Int32)), .val (.int (0 : Int32)), .val (.int (0 : Int32)), .val (.int (((0 : Int32) + (0 : Int32)) + (1 : Int32))), .val (.int (1 : Int32))] [(.int (1 : Int32))])) _
          refine Own.go (fun t k => XS.goto X93.here hx rfl (pc0 := 165) (pc' := 169) rfl (hb hby at_165) (by decide) (by decide) k) ?_
          show Own.Fin p e below (T93.setTop (mkF m 169 #[.val (.long q1), .second, .val (.long q2), .second, .val (.long q3), .second, .val (.int p4), .val (.long bb), .second, .val (.long cc), .second, .val (.int (0 : Int32)), .val (.int (0 : Int32)), .val (.int (0 : Int32)), .val (.int (0 : Int32)), .val (.int (0 : Int32)), .val (.int (((0 : Int32) + (0 : Int32)) + (1 : Int32))), .val (.int (1 : Int32))] [(.int (1 : Int32))])) _
          refine Own.retN X93 hx Bd.notSynchronized (t := .boolean) Bd.returns (by simp) (hb hby at_169) (by decide) (by decide) ?_
          exact ⟨rfl, N93⟩
    · by_cases hbc : cc < bb
      · by_cases hac : cc < q1
        · skip
          show Own.Fin p e below (s₁.setTop (mkF m 30 #[.val (.long q1), .second, .val (.long q2), .second, .val (.long q3), .second, .val (.int p4), .val (.long bb), .second, .val (.long cc), .second, .unset, .unset, .unset, .unset, .unset, .unset, .unset] [])) _
          refine Own.go (fun t k => XS.lloadN X0.here hx rfl (hb hby at_30) rfl k) ?_
          show Own.Fin p e below (s₁.setTop (mkF m 31 #[.val (.long q1), .second, .val (.long q2), .second, .val (.long q3), .second, .val (.int p4), .val (.long bb), .second, .val (.long cc), .second, .unset, .unset, .unset, .unset, .unset, .unset, .unset] [(.long q1)])) _
          refine Own.go (fun t k => XS.lload X0.here hx rfl (hb hby at_31) rfl k) ?_
          show Own.Fin p e below (s₁.setTop (mkF m 33 #[.val (.long q1), .second, .val (.long q2), .second, .val (.long q3), .second, .val (.int p4), .val (.long bb), .second, .val (.long cc), .second, .unset, .unset, .unset, .unset, .unset, .unset, .unset] [(.long bb), (.long q1)])) _
          refine Own.cS X0 hx hZ hown (hw _ (List.mem_of_getElem? (i := 0) rfl)) (hw _ (List.mem_of_getElem? (i := 1) rfl)) (hw _ (List.mem_of_getElem? (i := 2) rfl)) (hw _ (List.mem_of_getElem? (i := 3) rfl)) (by decide) (rm1 l Z a0 hw [] q1 bb h0 n0 Z0 ) (by decide) (W := 0) (by decide) (argsL := [(.long q1), (.long bb)]) (rest := []) (by rw [hml]; rfl) (lenOf pd_0 rfl) rfl (Nat.le_of_eq rfl) (hb hby at_33) e0 (by decide) (by decide) ?_
          intro T103 L103 v103 X103 hQ103
          obtain ⟨rfl, N103q, e103⟩ := hQ103
          have N103 := Fr.app N0 N103q
          rw [own_co0 hab.2.1]
          show Own.Fin p e below (T103.setTop (mkF m 36 #[.val (.long q1), .second, .val (.long q2), .second, .val (.long q3), .second, .val (.int p4), .val (.long bb), .second, .val (.long cc), .second, .unset, .unset, .unset, .unset, .unset, .unset, .unset] [(.int (0 : Int32))])) _
          refine Own.go (fun t k => XS.istore X103.here hx rfl (hb hby at_36) rfl (l' := #[.val (.long q1), .second, .val (.long q2), .second, .val (.long q3), .second, .val (.int p4), .val (.long bb), .second, .val (.long cc), .second, .val (.int (0 : Int32)), .unset, .unset, .unset, .unset, .unset, .unset]) rfl k) ?_
          show Own.Fin p e below (T103.setTop (mkF m 38 #[.val (.long q1), .second, .val (.long q2), .second, .val (.long q3), .second, .val (.int p4), .val (.long bb), .second, .val (.long cc), .second, .val (.int (0 : Int32)), .unset, .unset, .unset, .unset, .unset, .unset] [])) _
          refine Own.go (fun t k => XS.lload X103.here hx rfl (hb hby at_38) rfl k) ?_
          show Own.Fin p e below (T103.setTop (mkF m 40 #[.val (.long q1), .second, .val (.long q2), .second, .val (.long q3), .second, .val (.int p4), .val (.long bb), .second, .val (.long cc), .second, .val (.int (0 : Int32)), .unset, .unset, .unset, .unset, .unset, .unset] [(.long bb)])) _
          refine Own.go (fun t k => XS.lloadN X103.here hx rfl (hb hby at_40) rfl k) ?_
          show Own.Fin p e below (T103.setTop (mkF m 41 #[.val (.long q1), .second, .val (.long q2), .second, .val (.long q3), .second, .val (.int p4), .val (.long bb), .second, .val (.long cc), .second, .val (.int (0 : Int32)), .unset, .unset, .unset, .unset, .unset, .unset] [(.long q1), (.long bb)])) _
          refine Own.cS X103 hx hZ hown (hw _ (List.mem_of_getElem? (i := 0) rfl)) (hw _ (List.mem_of_getElem? (i := 1) rfl)) (hw _ (List.mem_of_getElem? (i := 2) rfl)) (hw _ (List.mem_of_getElem? (i := 3) rfl)) (by decide) (rm1 l Z a0 hw [] bb q1 h0 n0 Z0 ) (by decide) (W := 0) (by decide) (argsL := [(.long bb), (.long q1)]) (rest := []) (by rw [hml]; rfl) (lenOf pd_0 rfl) rfl (Nat.le_of_eq rfl) (hb hby at_41) e103 (by decide) (by decide) ?_
          intro T104 L104 v104 X104 hQ104
          obtain ⟨rfl, N104q, e104⟩ := hQ104
          have N104 := Fr.app N103 N104q
          rw [own_co1 hab.1]
          show Own.Fin p e below (T104.setTop (mkF m 44 #[.val (.long q1), .second, .val (.long q2), .second, .val (.long q3), .second, .val (.int p4), .val (.long bb), .second, .val (.long cc), .second, .val (.int (0 : Int32)), .unset, .unset, .unset, .unset, .unset, .unset] [(.int (1 : Int32))])) _
          refine Own.go (fun t k => XS.istore X104.here hx rfl (hb hby at_44) rfl (l' := #[.val (.long q1), .second, .val (.long q2), .second, .val (.long q3), .second, .val (.int p4), .val (.long bb), .second, .val (.long cc), .second, .val (.int (0 : Int32)), .val (.int (1 : Int32)), .unset, .unset, .unset, .unset, .unset]) rfl k) ?_
          show Own.Fin p e below (T104.setTop (mkF m 46 #[.val (.long q1), .second, .val (.long q2), .second, .val (.long q3), .second, .val (.int p4), .val (.long bb), .second, .val (.long cc), .second, .val (.int (0 : Int32)), .val (.int (1 : Int32)), .unset, .unset, .unset, .unset, .unset] [])) _
          refine Own.go (fun t k => XS.lload X104.here hx rfl (hb hby at_46) rfl k) ?_
          show Own.Fin p e below (T104.setTop (mkF m 48 #[.val (.long q1), .second, .val (.long q2), .second, .val (.long q3), .second, .val (.int p4), .val (.long bb), .second, .val (.long cc), .second, .val (.int (0 : Int32)), .val (.int (1 : Int32)), .unset, .unset, .unset, .unset, .unset] [(.long bb)])) _
          refine Own.go (fun t k => XS.lload X104.here hx rfl (hb hby at_48) rfl k) ?_
          show Own.Fin p e below (T104.setTop (mkF m 50 #[.val (.long q1), .second, .val (.long q2), .second, .val (.long q3), .second, .val (.int p4), .val (.long bb), .second, .val (.long cc), .second, .val (.int (0 : Int32)), .val (.int (1 : Int32)), .unset, .unset, .unset, .unset, .unset] [(.long cc), (.long bb)])) _
          refine Own.cS X104 hx hZ hown (hw _ (List.mem_of_getElem? (i := 0) rfl)) (hw _ (List.mem_of_getElem? (i := 1) rfl)) (hw _ (List.mem_of_getElem? (i := 2) rfl)) (hw _ (List.mem_of_getElem? (i := 3) rfl)) (by decide) (rm1 l Z a0 hw [] bb cc h0 n0 Z0 ) (by decide) (W := 0) (by decide) (argsL := [(.long bb), (.long cc)]) (rest := []) (by rw [hml]; rfl) (lenOf pd_0 rfl) rfl (Nat.le_of_eq rfl) (hb hby at_50) e104 (by decide) (by decide) ?_
          intro T105 L105 v105 X105 hQ105
          obtain ⟨rfl, N105q, e105⟩ := hQ105
          have N105 := Fr.app N104 N105q
          rw [own_co1 hbc]
          show Own.Fin p e below (T105.setTop (mkF m 53 #[.val (.long q1), .second, .val (.long q2), .second, .val (.long q3), .second, .val (.int p4), .val (.long bb), .second, .val (.long cc), .second, .val (.int (0 : Int32)), .val (.int (1 : Int32)), .unset, .unset, .unset, .unset, .unset] [(.int (1 : Int32))])) _
          refine Own.go (fun t k => XS.istore X105.here hx rfl (hb hby at_53) rfl (l' := #[.val (.long q1), .second, .val (.long q2), .second, .val (.long q3), .second, .val (.int p4), .val (.long bb), .second, .val (.long cc), .second, .val (.int (0 : Int32)), .val (.int (1 : Int32)), .val (.int (1 : Int32)), .unset, .unset, .unset, .unset]) rfl k) ?_
          show Own.Fin p e below (T105.setTop (mkF m 55 #[.val (.long q1), .second, .val (.long q2), .second, .val (.long q3), .second, .val (.int p4), .val (.long bb), .second, .val (.long cc), .second, .val (.int (0 : Int32)), .val (.int (1 : Int32)), .val (.int (1 : Int32)), .unset, .unset, .unset, .unset] [])) _
          refine Own.go (fun t k => XS.lloadN X105.here hx rfl (hb hby at_55) rfl k) ?_
          show Own.Fin p e below (T105.setTop (mkF m 56 #[.val (.long q1), .second, .val (.long q2), .second, .val (.long q3), .second, .val (.int p4), .val (.long bb), .second, .val (.long cc), .second, .val (.int (0 : Int32)), .val (.int (1 : Int32)), .val (.int (1 : Int32)), .unset, .unset, .unset, .unset] [(.long q1)])) _
          refine Own.go (fun t k => XS.lload X105.here hx rfl (hb hby at_56) rfl k) ?_
          show Own.Fin p e below (T105.setTop (mkF m 58 #[.val (.long q1), .second, .val (.long q2), .second, .val (.long q3), .second, .val (.int p4), .val (.long bb), .second, .val (.long cc), .second, .val (.int (0 : Int32)), .val (.int (1 : Int32)), .val (.int (1 : Int32)), .unset, .unset, .unset, .unset] [(.long cc), (.long q1)])) _
          refine Own.cS X105 hx hZ hown (hw _ (List.mem_of_getElem? (i := 0) rfl)) (hw _ (List.mem_of_getElem? (i := 1) rfl)) (hw _ (List.mem_of_getElem? (i := 2) rfl)) (hw _ (List.mem_of_getElem? (i := 3) rfl)) (by decide) (rm1 l Z a0 hw [] q1 cc h0 n0 Z0 ) (by decide) (W := 0) (by decide) (argsL := [(.long q1), (.long cc)]) (rest := []) (by rw [hml]; rfl) (lenOf pd_0 rfl) rfl (Nat.le_of_eq rfl) (hb hby at_58) e105 (by decide) (by decide) ?_
          intro T106 L106 v106 X106 hQ106
          obtain ⟨rfl, N106q, e106⟩ := hQ106
          have N106 := Fr.app N105 N106q
          rw [own_co1 hac]
          show Own.Fin p e below (T106.setTop (mkF m 61 #[.val (.long q1), .second, .val (.long q2), .second, .val (.long q3), .second, .val (.int p4), .val (.long bb), .second, .val (.long cc), .second, .val (.int (0 : Int32)), .val (.int (1 : Int32)), .val (.int (1 : Int32)), .unset, .unset, .unset, .unset] [(.int (1 : Int32))])) _
          refine Own.go (fun t k => XS.istore X106.here hx rfl (hb hby at_61) rfl (l' := #[.val (.long q1), .second, .val (.long q2), .second, .val (.long q3), .second, .val (.int p4), .val (.long bb), .second, .val (.long cc), .second, .val (.int (0 : Int32)), .val (.int (1 : Int32)), .val (.int (1 : Int32)), .val (.int (1 : Int32)), .unset, .unset, .unset]) rfl k) ?_
          show Own.Fin p e below (T106.setTop (mkF m 63 #[.val (.long q1), .second, .val (.long q2), .second, .val (.long q3), .second, .val (.int p4), .val (.long bb), .second, .val (.long cc), .second, .val (.int (0 : Int32)), .val (.int (1 : Int32)), .val (.int (1 : Int32)), .val (.int (1 : Int32)), .unset, .unset, .unset] [])) _
          refine Own.go (fun t k => XS.lloadN X106.here hx rfl (hb hby at_63) rfl k) ?_
          show Own.Fin p e below (T106.setTop (mkF m 64 #[.val (.long q1), .second, .val (.long q2), .second, .val (.long q3), .second, .val (.int p4), .val (.long bb), .second, .val (.long cc), .second, .val (.int (0 : Int32)), .val (.int (1 : Int32)), .val (.int (1 : Int32)), .val (.int (1 : Int32)), .unset, .unset, .unset] [(.long q1)])) _
          refine Own.go (fun t k => XS.lload X106.here hx rfl (hb hby at_64) rfl k) ?_
          show Own.Fin p e below (T106.setTop (mkF m 66 #[.val (.long q1), .second, .val (.long q2), .second, .val (.long q3), .second, .val (.int p4), .val (.long bb), .second, .val (.long cc), .second, .val (.int (0 : Int32)), .val (.int (1 : Int32)), .val (.int (1 : Int32)), .val (.int (1 : Int32)), .unset, .unset, .unset] [(.long bb), (.long q1)])) _
          refine Own.cS X106 hx hZ hown (hw _ (List.mem_of_getElem? (i := 4) rfl)) (hw _ (List.mem_of_getElem? (i := 5) rfl)) (hw _ (List.mem_of_getElem? (i := 6) rfl)) (hw _ (List.mem_of_getElem? (i := 7) rfl)) (by decide) (rm2 l Z a0 hw [] q1 bb h0 n0 Z0 ) (by decide) (W := 0) (by decide) (argsL := [(.long q1), (.long bb)]) (rest := []) (by rw [hml]; rfl) (lenOf pd_1 rfl) rfl (Nat.le_of_eq rfl) (hb hby at_66) e106 (by decide) (by decide) ?_
          intro T107 L107 v107 X107 hQ107
          obtain ⟨rfl, N107q, e107⟩ := hQ107
          have N107 := Fr.app N106 N107q
          rw [own_mx1 hab.1]
          show Own.Fin p e below (T107.setTop (mkF m 69 #[.val (.long q1), .second, .val (.long q2), .second, .val (.long q3), .second, .val (.int p4), .val (.long bb), .second, .val (.long cc), .second, .val (.int (0 : Int32)), .val (.int (1 : Int32)), .val (.int (1 : Int32)), .val (.int (1 : Int32)), .unset, .unset, .unset] [(.long bb)])) _
          refine Own.go (fun t k => XS.lloadN X107.here hx rfl (hb hby at_69) rfl k) ?_
          show Own.Fin p e below (T107.setTop (mkF m 70 #[.val (.long q1), .second, .val (.long q2), .second, .val (.long q3), .second, .val (.int p4), .val (.long bb), .second, .val (.long cc), .second, .val (.int (0 : Int32)), .val (.int (1 : Int32)), .val (.int (1 : Int32)), .val (.int (1 : Int32)), .unset, .unset, .unset] [(.long q1), (.long bb)])) _
          refine Own.go (fun t k => XS.lcmp X107.here hx rfl (hb hby at_70) rfl k) ?_
          show Own.Fin p e below (T107.setTop (mkF m 71 #[.val (.long q1), .second, .val (.long q2), .second, .val (.long q3), .second, .val (.int p4), .val (.long bb), .second, .val (.long cc), .second, .val (.int (0 : Int32)), .val (.int (1 : Int32)), .val (.int (1 : Int32)), .val (.int (1 : Int32)), .unset, .unset, .unset] [(.int (lcmpW bb q1))])) _
          have hc71_107 : ¬ ((lcmpW bb q1) = (0 : Int32)) := fun q => (Ne.symm hab.2.2) ((lw_eq _ _).mp q)
          refine Own.go (fun t k => XS.ifYes X107.here hx rfl (pc0 := 71) (pc' := 85) rfl (hb hby at_71) rfl ((if0 _ _).trans (feq hc71_107).2) (by decide) (by decide) k) ?_
          show Own.Fin p e below (T107.setTop (mkF m 85 #[.val (.long q1), .second, .val (.long q2), .second, .val (.long q3), .second, .val (.int p4), .val (.long bb), .second, .val (.long cc), .second, .val (.int (0 : Int32)), .val (.int (1 : Int32)), .val (.int (1 : Int32)), .val (.int (1 : Int32)), .unset, .unset, .unset] [])) _
          refine Own.go (fun t k => XS.iconst X107.here hx rfl (hb hby at_85) k) ?_
          show Own.Fin p e below (T107.setTop (mkF m 86 #[.val (.long q1), .second, .val (.long q2), .second, .val (.long q3), .second, .val (.int p4), .val (.long bb), .second, .val (.long cc), .second, .val (.int (0 : Int32)), .val (.int (1 : Int32)), .val (.int (1 : Int32)), .val (.int (1 : Int32)), .unset, .unset, .unset] [(.int (0 : Int32))])) _
          refine Own.go (fun t k => XS.istore X107.here hx rfl (hb hby at_86) rfl (l' := #[.val (.long q1), .second, .val (.long q2), .second, .val (.long q3), .second, .val (.int p4), .val (.long bb), .second, .val (.long cc), .second, .val (.int (0 : Int32)), .val (.int (1 : Int32)), .val (.int (1 : Int32)), .val (.int (1 : Int32)), .val (.int (0 : Int32)), .unset, .unset]) rfl k) ?_
          show Own.Fin p e below (T107.setTop (mkF m 88 #[.val (.long q1), .second, .val (.long q2), .second, .val (.long q3), .second, .val (.int p4), .val (.long bb), .second, .val (.long cc), .second, .val (.int (0 : Int32)), .val (.int (1 : Int32)), .val (.int (1 : Int32)), .val (.int (1 : Int32)), .val (.int (0 : Int32)), .unset, .unset] [])) _
          refine Own.go (fun t k => XS.iload X107.here hx rfl (hb hby at_88) rfl k) ?_
          show Own.Fin p e below (T107.setTop (mkF m 90 #[.val (.long q1), .second, .val (.long q2), .second, .val (.long q3), .second, .val (.int p4), .val (.long bb), .second, .val (.long cc), .second, .val (.int (0 : Int32)), .val (.int (1 : Int32)), .val (.int (1 : Int32)), .val (.int (1 : Int32)), .val (.int (0 : Int32)), .unset, .unset] [(.int (0 : Int32))])) _
          have hc90_108 : (0 : Int32) = (0 : Int32) := by decide
          refine Own.go (fun t k => XS.ifYes X107.here hx rfl (pc0 := 90) (pc' := 97) rfl (hb hby at_90) rfl ((if0 _ _).trans (teq hc90_108).1) (by decide) (by decide) k) ?_
          show Own.Fin p e below (T107.setTop (mkF m 97 #[.val (.long q1), .second, .val (.long q2), .second, .val (.long q3), .second, .val (.int p4), .val (.long bb), .second, .val (.long cc), .second, .val (.int (0 : Int32)), .val (.int (1 : Int32)), .val (.int (1 : Int32)), .val (.int (1 : Int32)), .val (.int (0 : Int32)), .unset, .unset] [])) _
          refine Own.go (fun t k => XS.iconst X107.here hx rfl (hb hby at_97) k) ?_
          show Own.Fin p e below (T107.setTop (mkF m 98 #[.val (.long q1), .second, .val (.long q2), .second, .val (.long q3), .second, .val (.int p4), .val (.long bb), .second, .val (.long cc), .second, .val (.int (0 : Int32)), .val (.int (1 : Int32)), .val (.int (1 : Int32)), .val (.int (1 : Int32)), .val (.int (0 : Int32)), .unset, .unset] [(.int (0 : Int32))])) _
          refine Own.go (fun t k => XS.iload X107.here hx rfl (hb hby at_98) rfl k) ?_
          show Own.Fin p e below (T107.setTop (mkF m 100 #[.val (.long q1), .second, .val (.long q2), .second, .val (.long q3), .second, .val (.int p4), .val (.long bb), .second, .val (.long cc), .second, .val (.int (0 : Int32)), .val (.int (1 : Int32)), .val (.int (1 : Int32)), .val (.int (1 : Int32)), .val (.int (0 : Int32)), .unset, .unset] [(.int (1 : Int32)), (.int (0 : Int32))])) _
          have hc100_109 : ¬ ((1 : Int32) = (0 : Int32)) := by decide
          refine Own.go (fun t k => XS.ifNo X107.here hx rfl (hb hby at_100) rfl ((if0 _ _).trans (feq hc100_109).1) k) ?_
          show Own.Fin p e below (T107.setTop (mkF m 103 #[.val (.long q1), .second, .val (.long q2), .second, .val (.long q3), .second, .val (.int p4), .val (.long bb), .second, .val (.long cc), .second, .val (.int (0 : Int32)), .val (.int (1 : Int32)), .val (.int (1 : Int32)), .val (.int (1 : Int32)), .val (.int (0 : Int32)), .unset, .unset] [(.int (0 : Int32))])) _
          refine Own.go (fun t k => XS.iconst X107.here hx rfl (hb hby at_103) k) ?_
          show Own.Fin p e below (T107.setTop (mkF m 104 #[.val (.long q1), .second, .val (.long q2), .second, .val (.long q3), .second, .val (.int p4), .val (.long bb), .second, .val (.long cc), .second, .val (.int (0 : Int32)), .val (.int (1 : Int32)), .val (.int (1 : Int32)), .val (.int (1 : Int32)), .val (.int (0 : Int32)), .unset, .unset] [(.int (1 : Int32)), (.int (0 : Int32))])) _
          refine Own.go (fun t k => XS.goto X107.here hx rfl (pc0 := 104) (pc' := 108) rfl (hb hby at_104) (by decide) (by decide) k) ?_
          show Own.Fin p e below (T107.setTop (mkF m 108 #[.val (.long q1), .second, .val (.long q2), .second, .val (.long q3), .second, .val (.int p4), .val (.long bb), .second, .val (.long cc), .second, .val (.int (0 : Int32)), .val (.int (1 : Int32)), .val (.int (1 : Int32)), .val (.int (1 : Int32)), .val (.int (0 : Int32)), .unset, .unset] [(.int (1 : Int32)), (.int (0 : Int32))])) _
          refine Own.go (fun t k => XS.iadd X107.here hx rfl (hb hby at_108) rfl k) ?_
          show Own.Fin p e below (T107.setTop (mkF m 109 #[.val (.long q1), .second, .val (.long q2), .second, .val (.long q3), .second, .val (.int p4), .val (.long bb), .second, .val (.long cc), .second, .val (.int (0 : Int32)), .val (.int (1 : Int32)), .val (.int (1 : Int32)), .val (.int (1 : Int32)), .val (.int (0 : Int32)), .unset, .unset] [(.int ((0 : Int32) + (1 : Int32)))])) _
          refine Own.go (fun t k => XS.lloadN X107.here hx rfl (hb hby at_109) rfl k) ?_
          show Own.Fin p e below (T107.setTop (mkF m 110 #[.val (.long q1), .second, .val (.long q2), .second, .val (.long q3), .second, .val (.int p4), .val (.long bb), .second, .val (.long cc), .second, .val (.int (0 : Int32)), .val (.int (1 : Int32)), .val (.int (1 : Int32)), .val (.int (1 : Int32)), .val (.int (0 : Int32)), .unset, .unset] [(.long q1), (.int ((0 : Int32) + (1 : Int32)))])) _
          refine Own.go (fun t k => XS.lload X107.here hx rfl (hb hby at_110) rfl k) ?_
          show Own.Fin p e below (T107.setTop (mkF m 112 #[.val (.long q1), .second, .val (.long q2), .second, .val (.long q3), .second, .val (.int p4), .val (.long bb), .second, .val (.long cc), .second, .val (.int (0 : Int32)), .val (.int (1 : Int32)), .val (.int (1 : Int32)), .val (.int (1 : Int32)), .val (.int (0 : Int32)), .unset, .unset] [(.long bb), (.long q1), (.int ((0 : Int32) + (1 : Int32)))])) _
          refine Own.go (fun t k => XS.lcmp X107.here hx rfl (hb hby at_112) rfl k) ?_
          show Own.Fin p e below (T107.setTop (mkF m 113 #[.val (.long q1), .second, .val (.long q2), .second, .val (.long q3), .second, .val (.int p4), .val (.long bb), .second, .val (.long cc), .second, .val (.int (0 : Int32)), .val (.int (1 : Int32)), .val (.int (1 : Int32)), .val (.int (1 : Int32)), .val (.int (0 : Int32)), .unset, .unset] [(.int (lcmpW q1 bb)), (.int ((0 : Int32) + (1 : Int32)))])) _
          have hc113_110 : ¬ ((lcmpW q1 bb) = (0 : Int32)) := fun q => hab.2.2 ((lw_eq _ _).mp q)
          refine Own.go (fun t k => XS.ifYes X107.here hx rfl (pc0 := 113) (pc' := 120) rfl (hb hby at_113) rfl ((if0 _ _).trans (feq hc113_110).2) (by decide) (by decide) k) ?_
          show Own.Fin p e below (T107.setTop (mkF m 120 #[.val (.long q1), .second, .val (.long q2), .second, .val (.long q3), .second, .val (.int p4), .val (.long bb), .second, .val (.long cc), .second, .val (.int (0 : Int32)), .val (.int (1 : Int32)), .val (.int (1 : Int32)), .val (.int (1 : Int32)), .val (.int (0 : Int32)), .unset, .unset] [(.int ((0 : Int32) + (1 : Int32)))])) _
          refine Own.go (fun t k => XS.iconst X107.here hx rfl (hb hby at_120) k) ?_
          show Own.Fin p e below (T107.setTop (mkF m 121 #[.val (.long q1), .second, .val (.long q2), .second, .val (.long q3), .second, .val (.int p4), .val (.long bb), .second, .val (.long cc), .second, .val (.int (0 : Int32)), .val (.int (1 : Int32)), .val (.int (1 : Int32)), .val (.int (1 : Int32)), .val (.int (0 : Int32)), .unset, .unset] [(.int (0 : Int32)), (.int ((0 : Int32) + (1 : Int32)))])) _
          refine Own.go (fun t k => XS.iadd X107.here hx rfl (hb hby at_121) rfl k) ?_
          show Own.Fin p e below (T107.setTop (mkF m 122 #[.val (.long q1), .second, .val (.long q2), .second, .val (.long q3), .second, .val (.int p4), .val (.long bb), .second, .val (.long cc), .second, .val (.int (0 : Int32)), .val (.int (1 : Int32)), .val (.int (1 : Int32)), .val (.int (1 : Int32)), .val (.int (0 : Int32)), .unset, .unset] [(.int (((0 : Int32) + (1 : Int32)) + (0 : Int32)))])) _
          refine Own.go (fun t k => XS.istore X107.here hx rfl (hb hby at_122) rfl (l' := #[.val (.long q1), .second, .val (.long q2), .second, .val (.long q3), .second, .val (.int p4), .val (.long bb), .second, .val (.long cc), .second, .val (.int (0 : Int32)), .val (.int (1 : Int32)), .val (.int (1 : Int32)), .val (.int (1 : Int32)), .val (.int (0 : Int32)), .val (.int (((0 : Int32) + (1 : Int32)) + (0 : Int32))), .unset]) rfl k) ?_
          show Own.Fin p e below (T107.setTop (mkF m 124 #[.val (.long q1), .second, .val (.long q2), .second, .val (.long q3), .second, .val (.int p4), .val (.long bb), .second, .val (.long cc), .second, .val (.int (0 : Int32)), .val (.int (1 : Int32)), .val (.int (1 : Int32)), .val (.int (1 : Int32)), .val (.int (0 : Int32)), .val (.int (((0 : Int32) + (1 : Int32)) + (0 : Int32))), .unset] [])) _
          refine Own.go (fun t k => XS.iload X107.here hx rfl (hb hby at_124) rfl k) ?_
          show Own.Fin p e below (T107.setTop (mkF m 126 #[.val (.long q1), .second, .val (.long q2), .second, .val (.long q3), .second, .val (.int p4), .val (.long bb), .second, .val (.long cc), .second, .val (.int (0 : Int32)), .val (.int (1 : Int32)), .val (.int (1 : Int32)), .val (.int (1 : Int32)), .val (.int (0 : Int32)), .val (.int (((0 : Int32) + (1 : Int32)) + (0 : Int32))), .unset] [(.int (0 : Int32))])) _
          have hc126_111 : (0 : Int32) = (0 : Int32) := by decide
          refine Own.go (fun t k => XS.ifYes X107.here hx rfl (pc0 := 126) (pc' := 139) rfl (hb hby at_126) rfl ((if0 _ _).trans (teq hc126_111).1) (by decide) (by decide) k) ?_
          show Own.Fin p e below (T107.setTop (mkF m 139 #[.val (.long q1), .second, .val (.long q2), .second, .val (.long q3), .second, .val (.int p4), .val (.long bb), .second, .val (.long cc), .second, .val (.int (0 : Int32)), .val (.int (1 : Int32)), .val (.int (1 : Int32)), .val (.int (1 : Int32)), .val (.int (0 : Int32)), .val (.int (((0 : Int32) + (1 : Int32)) + (0 : Int32))), .unset] [])) _
          refine Own.go (fun t k => XS.iconst X107.here hx rfl (hb hby at_139) k) ?_
          show Own.Fin p e below (T107.setTop (mkF m 140 #[.val (.long q1), .second, .val (.long q2), .second, .val (.long q3), .second, .val (.int p4), .val (.long bb), .second, .val (.long cc), .second, .val (.int (0 : Int32)), .val (.int (1 : Int32)), .val (.int (1 : Int32)), .val (.int (1 : Int32)), .val (.int (0 : Int32)), .val (.int (((0 : Int32) + (1 : Int32)) + (0 : Int32))), .unset] [(.int (1 : Int32))])) _
          refine Own.go (fun t k => XS.goto X107.here hx rfl (pc0 := 140) (pc' := 144) rfl (hb hby at_140) (by decide) (by decide) k) ?_
          show Own.Fin p e below (T107.setTop (mkF m 144 #[.val (.long q1), .second, .val (.long q2), .second, .val (.long q3), .second, .val (.int p4), .val (.long bb), .second, .val (.long cc), .second, .val (.int (0 : Int32)), .val (.int (1 : Int32)), .val (.int (1 : Int32)), .val (.int (1 : Int32)), .val (.int (0 : Int32)), .val (.int (((0 : Int32) + (1 : Int32)) + (0 : Int32))), .unset] [(.int (1 : Int32))])) _
          refine Own.go (fun t k => XS.istore X107.here hx rfl (hb hby at_144) rfl (l' := #[.val (.long q1), .second, .val (.long q2), .second, .val (.long q3), .second, .val (.int p4), .val (.long bb), .second, .val (.long cc), .second, .val (.int (0 : Int32)), .val (.int (1 : Int32)), .val (.int (1 : Int32)), .val (.int (1 : Int32)), .val (.int (0 : Int32)), .val (.int (((0 : Int32) + (1 : Int32)) + (0 : Int32))), .val (.int (1 : Int32))]) rfl k) ?_
          show Own.Fin p e below (T107.setTop (mkF m 146 #[.val (.long q1), .second, .val (.long q2), .second, .val (.long q3), .second, .val (.int p4), .val (.long bb), .second, .val (.long cc), .second, .val (.int (0 : Int32)), .val (.int (1 : Int32)), .val (.int (1 : Int32)), .val (.int (1 : Int32)), .val (.int (0 : Int32)), .val (.int (((0 : Int32) + (1 : Int32)) + (0 : Int32))), .val (.int (1 : Int32))] [])) _
          refine Own.go (fun t k => XS.iload X107.here hx rfl (hb hby at_146) rfl k) ?_
          show Own.Fin p e below (T107.setTop (mkF m 148 #[.val (.long q1), .second, .val (.long q2), .second, .val (.long q3), .second, .val (.int p4), .val (.long bb), .second, .val (.long cc), .second, .val (.int (0 : Int32)), .val (.int (1 : Int32)), .val (.int (1 : Int32)), .val (.int (1 : Int32)), .val (.int (0 : Int32)), .val (.int (((0 : Int32) + (1 : Int32)) + (0 : Int32))), .val (.int (1 : Int32))] [(.int (0 : Int32))])) _
          refine Own.go (fun t k => XS.iload X107.here hx rfl (hb hby at_148) rfl k) ?_
          show Own.Fin p e below (T107.setTop (mkF m 150 #[.val (.long q1), .second, .val (.long q2), .second, .val (.long q3), .second, .val (.int p4), .val (.long bb), .second, .val (.long cc), .second, .val (.int (0 : Int32)), .val (.int (1 : Int32)), .val (.int (1 : Int32)), .val (.int (1 : Int32)), .val (.int (0 : Int32)), .val (.int (((0 : Int32) + (1 : Int32)) + (0 : Int32))), .val (.int (1 : Int32))] [(.int (0 : Int32)), (.int (0 : Int32))])) _
          have hc150_112 : (0 : Int32) = (0 : Int32) := by decide
          refine Own.go (fun t k => XS.icmpNo X107.here hx rfl (hb hby at_150) rfl (teq hc150_112).2 k) ?_
          show Own.Fin p e below (T107.setTop (mkF m 153 #[.val (.long q1), .second, .val (.long q2), .second, .val (.long q3), .second, .val (.int p4), .val (.long bb), .second, .val (.long cc), .second, .val (.int (0 : Int32)), .val (.int (1 : Int32)), .val (.int (1 : Int32)), .val (.int (1 : Int32)), .val (.int (0 : Int32)), .val (.int (((0 : Int32) + (1 : Int32)) + (0 : Int32))), .val (.int (1 : Int32))] [])) _
          refine Own.go (fun t k => XS.iload X107.here hx rfl (hb hby at_153) rfl k) ?_
          show Own.Fin p e below (T107.setTop (mkF m 155 #[.val (.long q1), .second, .val (.long q2), .second, .val (.long q3), .second, .val (.int p4), .val (.long bb), .second, .val (.long cc), .second, .val (.int (0 : Int32)), .val (.int (1 : Int32)), .val (.int (1 : Int32)), .val (.int (1 : Int32)), .val (.int (0 : Int32)), .val (.int (((0 : Int32) + (1 : Int32)) + (0 : Int32))), .val (.int (1 : Int32))] [(.int (((0 : Int32) + (1 : Int32)) + (0 : Int32)))])) _
          refine Own.go (fun t k => XS.iconst X107.here hx rfl (hb hby at_155) k) ?_
          show Own.Fin p e below (T107.setTop (mkF m 156 #[.val (.long q1), .second, .val (.long q2), .second, .val (.long q3), .second, .val (.int p4), .val (.long bb), .second, .val (.long cc), .second, .val (.int (0 : Int32)), .val (.int (1 : Int32)), .val (.int (1 : Int32)), .val (.int (1 : Int32)), .val (.int (0 : Int32)), .val (.int (((0 : Int32) + (1 : Int32)) + (0 : Int32))), .val (.int (1 : Int32))] [(.int (1 : Int32)), (.int (((0 : Int32) + (1 : Int32)) + (0 : Int32)))])) _
          have hc156_113 : (((0 : Int32) + (1 : Int32)) + (0 : Int32)) = (1 : Int32) := by decide
          refine Own.go (fun t k => XS.icmpNo X107.here hx rfl (hb hby at_156) rfl (teq hc156_113).2 k) ?_
          show Own.Fin p e below (T107.setTop (mkF m 159 #[.val (.long q1), .second, .val (.long q2), .second, .val (.long q3), .second, .val (.int p4), .val (.long bb), .second, .val (.long cc), .second, .val (.int (0 : Int32)), .val (.int (1 : Int32)), .val (.int (1 : Int32)), .val (.int (1 : Int32)), .val (.int (0 : Int32)), .val (.int (((0 : Int32) + (1 : Int32)) + (0 : Int32))), .val (.int (1 : Int32))] [])) _
          refine Own.go (fun t k => XS.iload X107.here hx rfl (hb hby at_159) rfl k) ?_
          show Own.Fin p e below (T107.setTop (mkF m 161 #[.val (.long q1), .second, .val (.long q2), .second, .val (.long q3), .second, .val (.int p4), .val (.long bb), .second, .val (.long cc), .second, .val (.int (0 : Int32)), .val (.int (1 : Int32)), .val (.int (1 : Int32)), .val (.int (1 : Int32)), .val (.int (0 : Int32)), .val (.int (((0 : Int32) + (1 : Int32)) + (0 : Int32))), .val (.int (1 : Int32))] [(.int (1 : Int32))])) _
          have hc161_114 : ¬ ((1 : Int32) = (0 : Int32)) := by decide
          refine Own.go (fun t k => XS.ifNo X107.here hx rfl (hb hby at_161) rfl ((if0 _ _).trans (feq hc161_114).1) k) ?_
          show Own.Fin p e below (T107.setTop (mkF m 164 #[.val (.long q1), .second, .val (.long q2), .second, .val (.long q3), .second, .val (.int p4), .val (.long bb), .second, .val (.long cc), .second, .val (.int (0 : Int32)), .val (.int (1 : Int32)), .val (.int (1 : Int32)), .val (.int (1 : Int32)), .val (.int (0 : Int32)), .val (.int (((0 : Int32) + (1 : Int32)) + (0 : Int32))), .val (.int (1 : Int32))] [])) _
          refine Own.go (fun t k => XS.iconst X107.here hx rfl (hb hby at_164) k) ?_
          show Own.Fin p e below (T107.setTop (mkF m 165 #[.val (.long q1), .second, .val (.long q2), .second, .val (.long q3), .second, .val (.int p4), .val (.long bb), .second, .val (.long cc), .second, .val (.int (0 : Int32)), .val (.int (1 : Int32)), .val (.int (1 : Int32)), .val (.int (1 : Int32)), .val (.int (0 : Int32)), .val (.int (((0 : Int32) + (1 : Int32)) + (0 : Int32))), .val (.int (1 : Int32))] [(.int (1 : Int32))])) _
          refine Own.go (fun t k => XS.goto X107.here hx rfl (pc0 := 165) (pc' := 169) rfl (hb hby at_165) (by decide) (by decide) k) ?_
          show Own.Fin p e below (T107.setTop (mkF m 169 #[.val (.long q1), .second, .val (.long q2), .second, .val (.long q3), .second, .val (.int p4), .val (.long bb), .second, .val (.long cc), .second, .val (.int (0 : Int32)), .val (.int (1 : Int32)), .val (.int (1 : Int32)), .val (.int (1 : Int32)), .val (.int (0 : Int32)), .val (.int (((0 : Int32) + (1 : Int32)) + (0 : Int32))), .val (.int (1 : Int32))] [(.int (1 : Int32))])) _
          refine Own.retN X107 hx Bd.notSynchronized (t := .boolean) Bd.returns (by simp) (hb hby at_169) (by decide) (by decide) ?_
          exact ⟨rfl, N107⟩
        · skip
          show Own.Fin p e below (s₁.setTop (mkF m 30 #[.val (.long q1), .second, .val (.long q2), .second, .val (.long q3), .second, .val (.int p4), .val (.long bb), .second, .val (.long cc), .second, .unset, .unset, .unset, .unset, .unset, .unset, .unset] [])) _
          refine Own.go (fun t k => XS.lloadN X0.here hx rfl (hb hby at_30) rfl k) ?_
          show Own.Fin p e below (s₁.setTop (mkF m 31 #[.val (.long q1), .second, .val (.long q2), .second, .val (.long q3), .second, .val (.int p4), .val (.long bb), .second, .val (.long cc), .second, .unset, .unset, .unset, .unset, .unset, .unset, .unset] [(.long q1)])) _
          refine Own.go (fun t k => XS.lload X0.here hx rfl (hb hby at_31) rfl k) ?_
          show Own.Fin p e below (s₁.setTop (mkF m 33 #[.val (.long q1), .second, .val (.long q2), .second, .val (.long q3), .second, .val (.int p4), .val (.long bb), .second, .val (.long cc), .second, .unset, .unset, .unset, .unset, .unset, .unset, .unset] [(.long bb), (.long q1)])) _
          refine Own.cS X0 hx hZ hown (hw _ (List.mem_of_getElem? (i := 0) rfl)) (hw _ (List.mem_of_getElem? (i := 1) rfl)) (hw _ (List.mem_of_getElem? (i := 2) rfl)) (hw _ (List.mem_of_getElem? (i := 3) rfl)) (by decide) (rm1 l Z a0 hw [] q1 bb h0 n0 Z0 ) (by decide) (W := 0) (by decide) (argsL := [(.long q1), (.long bb)]) (rest := []) (by rw [hml]; rfl) (lenOf pd_0 rfl) rfl (Nat.le_of_eq rfl) (hb hby at_33) e0 (by decide) (by decide) ?_
          intro T116 L116 v116 X116 hQ116
          obtain ⟨rfl, N116q, e116⟩ := hQ116
          have N116 := Fr.app N0 N116q
          rw [own_co0 hab.2.1]
          show Own.Fin p e below (T116.setTop (mkF m 36 #[.val (.long q1), .second, .val (.long q2), .second, .val (.long q3), .second, .val (.int p4), .val (.long bb), .second, .val (.long cc), .second, .unset, .unset, .unset, .unset, .unset, .unset, .unset] [(.int (0 : Int32))])) _
          refine Own.go (fun t k => XS.istore X116.here hx rfl (hb hby at_36) rfl (l' := #[.val (.long q1), .second, .val (.long q2), .second, .val (.long q3), .second, .val (.int p4), .val (.long bb), .second, .val (.long cc), .second, .val (.int (0 : Int32)), .unset, .unset, .unset, .unset, .unset, .unset]) rfl k) ?_
          show Own.Fin p e below (T116.setTop (mkF m 38 #[.val (.long q1), .second, .val (.long q2), .second, .val (.long q3), .second, .val (.int p4), .val (.long bb), .second, .val (.long cc), .second, .val (.int (0 : Int32)), .unset, .unset, .unset, .unset, .unset, .unset] [])) _
          refine Own.go (fun t k => XS.lload X116.here hx rfl (hb hby at_38) rfl k) ?_
          show Own.Fin p e below (T116.setTop (mkF m 40 #[.val (.long q1), .second, .val (.long q2), .second, .val (.long q3), .second, .val (.int p4), .val (.long bb), .second, .val (.long cc), .second, .val (.int (0 : Int32)), .unset, .unset, .unset, .unset, .unset, .unset] [(.long bb)])) _
          refine Own.go (fun t k => XS.lloadN X116.here hx rfl (hb hby at_40) rfl k) ?_
          show Own.Fin p e below (T116.setTop (mkF m 41 #[.val (.long q1), .second, .val (.long q2), .second, .val (.long q3), .second, .val (.int p4), .val (.long bb), .second, .val (.long cc), .second, .val (.int (0 : Int32)), .unset, .unset, .unset, .unset, .unset, .unset] [(.long q1), (.long bb)])) _
          refine Own.cS X116 hx hZ hown (hw _ (List.mem_of_getElem? (i := 0) rfl)) (hw _ (List.mem_of_getElem? (i := 1) rfl)) (hw _ (List.mem_of_getElem? (i := 2) rfl)) (hw _ (List.mem_of_getElem? (i := 3) rfl)) (by decide) (rm1 l Z a0 hw [] bb q1 h0 n0 Z0 ) (by decide) (W := 0) (by decide) (argsL := [(.long bb), (.long q1)]) (rest := []) (by rw [hml]; rfl) (lenOf pd_0 rfl) rfl (Nat.le_of_eq rfl) (hb hby at_41) e116 (by decide) (by decide) ?_
          intro T117 L117 v117 X117 hQ117
          obtain ⟨rfl, N117q, e117⟩ := hQ117
          have N117 := Fr.app N116 N117q
          rw [own_co1 hab.1]
          show Own.Fin p e below (T117.setTop (mkF m 44 #[.val (.long q1), .second, .val (.long q2), .second, .val (.long q3), .second, .val (.int p4), .val (.long bb), .second, .val (.long cc), .second, .val (.int (0 : Int32)), .unset, .unset, .unset, .unset, .unset, .unset] [(.int (1 : Int32))])) _
          refine Own.go (fun t k => XS.istore X117.here hx rfl (hb hby at_44) rfl (l' := #[.val (.long q1), .second, .val (.long q2), .second, .val (.long q3), .second, .val (.int p4), .val (.long bb), .second, .val (.long cc), .second, .val (.int (0 : Int32)), .val (.int (1 : Int32)), .unset, .unset, .unset, .unset, .unset]) rfl k) ?_
          show Own.Fin p e below (T117.setTop (mkF m 46 #[.val (.long q1), .second, .val (.long q2), .second, .val (.long q3), .second, .val (.int p4), .val (.long bb), .second, .val (.long cc), .second, .val (.int (0 : Int32)), .val (.int (1 : Int32)), .unset, .unset, .unset, .unset, .unset] [])) _
          refine Own.go (fun t k => XS.lload X117.here hx rfl (hb hby at_46) rfl k) ?_
          show Own.Fin p e below (T117.setTop (mkF m 48 #[.val (.long q1), .second, .val (.long q2), .second, .val (.long q3), .second, .val (.int p4), .val (.long bb), .second, .val (.long cc), .second, .val (.int (0 : Int32)), .val (.int (1 : Int32)), .unset, .unset, .unset, .unset, .unset] [(.long bb)])) _
          refine Own.go (fun t k => XS.lload X117.here hx rfl (hb hby at_48) rfl k) ?_
          show Own.Fin p e below (T117.setTop (mkF m 50 #[.val (.long q1), .second, .val (.long q2), .second, .val (.long q3), .second, .val (.int p4), .val (.long bb), .second, .val (.long cc), .second, .val (.int (0 : Int32)), .val (.int (1 : Int32)), .unset, .unset, .unset, .unset, .unset] [(.long cc), (.long bb)])) _
          refine Own.cS X117 hx hZ hown (hw _ (List.mem_of_getElem? (i := 0) rfl)) (hw _ (List.mem_of_getElem? (i := 1) rfl)) (hw _ (List.mem_of_getElem? (i := 2) rfl)) (hw _ (List.mem_of_getElem? (i := 3) rfl)) (by decide) (rm1 l Z a0 hw [] bb cc h0 n0 Z0 ) (by decide) (W := 0) (by decide) (argsL := [(.long bb), (.long cc)]) (rest := []) (by rw [hml]; rfl) (lenOf pd_0 rfl) rfl (Nat.le_of_eq rfl) (hb hby at_50) e117 (by decide) (by decide) ?_
          intro T118 L118 v118 X118 hQ118
          obtain ⟨rfl, N118q, e118⟩ := hQ118
          have N118 := Fr.app N117 N118q
          rw [own_co1 hbc]
          show Own.Fin p e below (T118.setTop (mkF m 53 #[.val (.long q1), .second, .val (.long q2), .second, .val (.long q3), .second, .val (.int p4), .val (.long bb), .second, .val (.long cc), .second, .val (.int (0 : Int32)), .val (.int (1 : Int32)), .unset, .unset, .unset, .unset, .unset] [(.int (1 : Int32))])) _
          refine Own.go (fun t k => XS.istore X118.here hx rfl (hb hby at_53) rfl (l' := #[.val (.long q1), .second, .val (.long q2), .second, .val (.long q3), .second, .val (.int p4), .val (.long bb), .second, .val (.long cc), .second, .val (.int (0 : Int32)), .val (.int (1 : Int32)), .val (.int (1 : Int32)), .unset, .unset, .unset, .unset]) rfl k) ?_
          show Own.Fin p e below (T118.setTop (mkF m 55 #[.val (.long q1), .second, .val (.long q2), .second, .val (.long q3), .second, .val (.int p4), .val (.long bb), .second, .val (.long cc), .second, .val (.int (0 : Int32)), .val (.int (1 : Int32)), .val (.int (1 : Int32)), .unset, .unset, .unset, .unset] [])) _
          refine Own.go (fun t k => XS.lloadN X118.here hx rfl (hb hby at_55) rfl k) ?_
          show Own.Fin p e below (T118.setTop (mkF m 56 #[.val (.long q1), .second, .val (.long q2), .second, .val (.long q3), .second, .val (.int p4), .val (.long bb), .second, .val (.long cc), .second, .val (.int (0 : Int32)), .val (.int (1 : Int32)), .val (.int (1 : Int32)), .unset, .unset, .unset, .unset] [(.long q1)])) _
          refine Own.go (fun t k => XS.lload X118.here hx rfl (hb hby at_56) rfl k) ?_
          show Own.Fin p e below (T118.setTop (mkF m 58 #[.val (.long q1), .second, .val (.long q2), .second, .val (.long q3), .second, .val (.int p4), .val (.long bb), .second, .val (.long cc), .second, .val (.int (0 : Int32)), .val (.int (1 : Int32)), .val (.int (1 : Int32)), .unset, .unset, .unset, .unset] [(.long cc), (.long q1)])) _
          refine Own.cS X118 hx hZ hown (hw _ (List.mem_of_getElem? (i := 0) rfl)) (hw _ (List.mem_of_getElem? (i := 1) rfl)) (hw _ (List.mem_of_getElem? (i := 2) rfl)) (hw _ (List.mem_of_getElem? (i := 3) rfl)) (by decide) (rm1 l Z a0 hw [] q1 cc h0 n0 Z0 ) (by decide) (W := 0) (by decide) (argsL := [(.long q1), (.long cc)]) (rest := []) (by rw [hml]; rfl) (lenOf pd_0 rfl) rfl (Nat.le_of_eq rfl) (hb hby at_58) e118 (by decide) (by decide) ?_
          intro T119 L119 v119 X119 hQ119
          obtain ⟨rfl, N119q, e119⟩ := hQ119
          have N119 := Fr.app N118 N119q
          rw [own_co0 hac]
          show Own.Fin p e below (T119.setTop (mkF m 61 #[.val (.long q1), .second, .val (.long q2), .second, .val (.long q3), .second, .val (.int p4), .val (.long bb), .second, .val (.long cc), .second, .val (.int (0 : Int32)), .val (.int (1 : Int32)), .val (.int (1 : Int32)), .unset, .unset, .unset, .unset] [(.int (0 : Int32))])) _
          refine Own.go (fun t k => XS.istore X119.here hx rfl (hb hby at_61) rfl (l' := #[.val (.long q1), .second, .val (.long q2), .second, .val (.long q3), .second, .val (.int p4), .val (.long bb), .second, .val (.long cc), .second, .val (.int (0 : Int32)), .val (.int (1 : Int32)), .val (.int (1 : Int32)), .val (.int (0 : Int32)), .unset, .unset, .unset]) rfl k) ?_
          show Own.Fin p e below (T119.setTop (mkF m 63 #[.val (.long q1), .second, .val (.long q2), .second, .val (.long q3), .second, .val (.int p4), .val (.long bb), .second, .val (.long cc), .second, .val (.int (0 : Int32)), .val (.int (1 : Int32)), .val (.int (1 : Int32)), .val (.int (0 : Int32)), .unset, .unset, .unset] [])) _
          refine Own.go (fun t k => XS.lloadN X119.here hx rfl (hb hby at_63) rfl k) ?_
          show Own.Fin p e below (T119.setTop (mkF m 64 #[.val (.long q1), .second, .val (.long q2), .second, .val (.long q3), .second, .val (.int p4), .val (.long bb), .second, .val (.long cc), .second, .val (.int (0 : Int32)), .val (.int (1 : Int32)), .val (.int (1 : Int32)), .val (.int (0 : Int32)), .unset, .unset, .unset] [(.long q1)])) _
          refine Own.go (fun t k => XS.lload X119.here hx rfl (hb hby at_64) rfl k) ?_
          show Own.Fin p e below (T119.setTop (mkF m 66 #[.val (.long q1), .second, .val (.long q2), .second, .val (.long q3), .second, .val (.int p4), .val (.long bb), .second, .val (.long cc), .second, .val (.int (0 : Int32)), .val (.int (1 : Int32)), .val (.int (1 : Int32)), .val (.int (0 : Int32)), .unset, .unset, .unset] [(.long bb), (.long q1)])) _
          refine Own.cS X119 hx hZ hown (hw _ (List.mem_of_getElem? (i := 4) rfl)) (hw _ (List.mem_of_getElem? (i := 5) rfl)) (hw _ (List.mem_of_getElem? (i := 6) rfl)) (hw _ (List.mem_of_getElem? (i := 7) rfl)) (by decide) (rm2 l Z a0 hw [] q1 bb h0 n0 Z0 ) (by decide) (W := 0) (by decide) (argsL := [(.long q1), (.long bb)]) (rest := []) (by rw [hml]; rfl) (lenOf pd_1 rfl) rfl (Nat.le_of_eq rfl) (hb hby at_66) e119 (by decide) (by decide) ?_
          intro T120 L120 v120 X120 hQ120
          obtain ⟨rfl, N120q, e120⟩ := hQ120
          have N120 := Fr.app N119 N120q
          rw [own_mx1 hab.1]
          show Own.Fin p e below (T120.setTop (mkF m 69 #[.val (.long q1), .second, .val (.long q2), .second, .val (.long q3), .second, .val (.int p4), .val (.long bb), .second, .val (.long cc), .second, .val (.int (0 : Int32)), .val (.int (1 : Int32)), .val (.int (1 : Int32)), .val (.int (0 : Int32)), .unset, .unset, .unset] [(.long bb)])) _
          refine Own.go (fun t k => XS.lloadN X120.here hx rfl (hb hby at_69) rfl k) ?_
          show Own.Fin p e below (T120.setTop (mkF m 70 #[.val (.long q1), .second, .val (.long q2), .second, .val (.long q3), .second, .val (.int p4), .val (.long bb), .second, .val (.long cc), .second, .val (.int (0 : Int32)), .val (.int (1 : Int32)), .val (.int (1 : Int32)), .val (.int (0 : Int32)), .unset, .unset, .unset] [(.long q1), (.long bb)])) _
          refine Own.go (fun t k => XS.lcmp X120.here hx rfl (hb hby at_70) rfl k) ?_
          show Own.Fin p e below (T120.setTop (mkF m 71 #[.val (.long q1), .second, .val (.long q2), .second, .val (.long q3), .second, .val (.int p4), .val (.long bb), .second, .val (.long cc), .second, .val (.int (0 : Int32)), .val (.int (1 : Int32)), .val (.int (1 : Int32)), .val (.int (0 : Int32)), .unset, .unset, .unset] [(.int (lcmpW bb q1))])) _
          have hc71_120 : ¬ ((lcmpW bb q1) = (0 : Int32)) := fun q => (Ne.symm hab.2.2) ((lw_eq _ _).mp q)
          refine Own.go (fun t k => XS.ifYes X120.here hx rfl (pc0 := 71) (pc' := 85) rfl (hb hby at_71) rfl ((if0 _ _).trans (feq hc71_120).2) (by decide) (by decide) k) ?_
          show Own.Fin p e below (T120.setTop (mkF m 85 #[.val (.long q1), .second, .val (.long q2), .second, .val (.long q3), .second, .val (.int p4), .val (.long bb), .second, .val (.long cc), .second, .val (.int (0 : Int32)), .val (.int (1 : Int32)), .val (.int (1 : Int32)), .val (.int (0 : Int32)), .unset, .unset, .unset] [])) _
          refine Own.go (fun t k => XS.iconst X120.here hx rfl (hb hby at_85) k) ?_
          show Own.Fin p e below (T120.setTop (mkF m 86 #[.val (.long q1), .second, .val (.long q2), .second, .val (.long q3), .second, .val (.int p4), .val (.long bb), .second, .val (.long cc), .second, .val (.int (0 : Int32)), .val (.int (1 : Int32)), .val (.int (1 : Int32)), .val (.int (0 : Int32)), .unset, .unset, .unset] [(.int (0 : Int32))])) _
          refine Own.go (fun t k => XS.istore X120.here hx rfl (hb hby at_86) rfl (l' := #[.val (.long q1), .second, .val (.long q2), .second, .val (.long q3), .second, .val (.int p4), .val (.long bb), .second, .val (.long cc), .second, .val (.int (0 : Int32)), .val (.int (1 : Int32)), .val (.int (1 : Int32)), .val (.int (0 : Int32)), .val (.int (0 : Int32)), .unset, .unset]) rfl k) ?_
          show Own.Fin p e below (T120.setTop (mkF m 88 #[.val (.long q1), .second, .val (.long q2), .second, .val (.long q3), .second, .val (.int p4), .val (.long bb), .second, .val (.long cc), .second, .val (.int (0 : Int32)), .val (.int (1 : Int32)), .val (.int (1 : Int32)), .val (.int (0 : Int32)), .val (.int (0 : Int32)), .unset, .unset] [])) _
          refine Own.go (fun t k => XS.iload X120.here hx rfl (hb hby at_88) rfl k) ?_
          show Own.Fin p e below (T120.setTop (mkF m 90 #[.val (.long q1), .second, .val (.long q2), .second, .val (.long q3), .second, .val (.int p4), .val (.long bb), .second, .val (.long cc), .second, .val (.int (0 : Int32)), .val (.int (1 : Int32)), .val (.int (1 : Int32)), .val (.int (0 : Int32)), .val (.int (0 : Int32)), .unset, .unset] [(.int (0 : Int32))])) _
          have hc90_121 : (0 : Int32) = (0 : Int32) := by decide
          refine Own.go (fun t k => XS.ifYes X120.here hx rfl (pc0 := 90) (pc' := 97) rfl (hb hby at_90) rfl ((if0 _ _).trans (teq hc90_121).1) (by decide) (by decide) k) ?_
          show Own.Fin p e below (T120.setTop (mkF m 97 #[.val (.long q1), .second, .val (.long q2), .second, .val (.long q3), .second, .val (.int p4), .val (.long bb), .second, .val (.long cc), .second, .val (.int (0 : Int32)), .val (.int (1 : Int32)), .val (.int (1 : Int32)), .val (.int (0 : Int32)), .val (.int (0 : Int32)), .unset, .unset] [])) _
          refine Own.go (fun t k => XS.iconst X120.here hx rfl (hb hby at_97) k) ?_
          show Own.Fin p e below (T120.setTop (mkF m 98 #[.val (.long q1), .second, .val (.long q2), .second, .val (.long q3), .second, .val (.int p4), .val (.long bb), .second, .val (.long cc), .second, .val (.int (0 : Int32)), .val (.int (1 : Int32)), .val (.int (1 : Int32)), .val (.int (0 : Int32)), .val (.int (0 : Int32)), .unset, .unset] [(.int (0 : Int32))])) _
          refine Own.go (fun t k => XS.iload X120.here hx rfl (hb hby at_98) rfl k) ?_
          show Own.Fin p e below (T120.setTop (mkF m 100 #[.val (.long q1), .second, .val (.long q2), .second, .val (.long q3), .second, .val (.int p4), .val (.long bb), .second, .val (.long cc), .second, .val (.int (0 : Int32)), .val (.int (1 : Int32)), .val (.int (1 : Int32)), .val (.int (0 : Int32)), .val (.int (0 : Int32)), .unset, .unset] [(.int (1 : Int32)), (.int (0 : Int32))])) _
          have hc100_122 : ¬ ((1 : Int32) = (0 : Int32)) := by decide
          refine Own.go (fun t k => XS.ifNo X120.here hx rfl (hb hby at_100) rfl ((if0 _ _).trans (feq hc100_122).1) k) ?_
          show Own.Fin p e below (T120.setTop (mkF m 103 #[.val (.long q1), .second, .val (.long q2), .second, .val (.long q3), .second, .val (.int p4), .val (.long bb), .second, .val (.long cc), .second, .val (.int (0 : Int32)), .val (.int (1 : Int32)), .val (.int (1 : Int32)), .val (.int (0 : Int32)), .val (.int (0 : Int32)), .unset, .unset] [(.int (0 : Int32))])) _
          refine Own.go (fun t k => XS.iconst X120.here hx rfl (hb hby at_103) k) ?_
          show Own.Fin p e below (T120.setTop (mkF m 104 #[.val (.long q1), .second, .val (.long q2), .second, .val (.long q3), .second, .val (.int p4), .val (.long bb), .second, .val (.long cc), .second, .val (.int (0 : Int32)), .val (.int (1 : Int32)), .val (.int (1 : Int32)), .val (.int (0 : Int32)), .val (.int (0 : Int32)), .unset, .unset] [(.int (1 : Int32)), (.int (0 : Int32))])) _
          refine Own.go (fun t k => XS.goto X120.here hx rfl (pc0 := 104) (pc' := 108) rfl (hb hby at_104) (by decide) (by decide) k) ?_
          show Own.Fin p e below (T120.setTop (mkF m 108 #[.val (.long q1), .second, .val (.long q2), .second, .val (.long q3), .second, .val (.int p4), .val (.long bb), .second, .val (.long cc), .second, .val (.int (0 : Int32)), .val (.int (1 : Int32)), .val (.int (1 : Int32)), .val (.int (0 : Int32)), .val (.int (0 : Int32)), .unset, .unset] [(.int (1 : Int32)), (.int (0 : Int32))])) _
          refine Own.go (fun t k => XS.iadd X120.here hx rfl (hb hby at_108) rfl k) ?_
          show Own.Fin p e below (T120.setTop (mkF m 109 #[.val (.long q1), .second, .val (.long q2), .second, .val (.long q3), .second, .val (.int p4), .val (.long bb), .second, .val (.long cc), .second, .val (.int (0 : Int32)), .val (.int (1 : Int32)), .val (.int (1 : Int32)), .val (.int (0 : Int32)), .val (.int (0 : Int32)), .unset, .unset] [(.int ((0 : Int32) + (1 : Int32)))])) _
          refine Own.go (fun t k => XS.lloadN X120.here hx rfl (hb hby at_109) rfl k) ?_
          show Own.Fin p e below (T120.setTop (mkF m 110 #[.val (.long q1), .second, .val (.long q2), .second, .val (.long q3), .second, .val (.int p4), .val (.long bb), .second, .val (.long cc), .second, .val (.int (0 : Int32)), .val (.int (1 : Int32)), .val (.int (1 : Int32)), .val (.int (0 : Int32)), .val (.int (0 : Int32)), .unset, .unset] [(.long q1), (.int ((0 : Int32) + (1 : Int32)))])) _
          refine Own.go (fun t k => XS.lload X120.here hx rfl (hb hby at_110) rfl k) ?_
          show Own.Fin p e below (T120.setTop (mkF m 112 #[.val (.long q1), .second, .val (.long q2), .second, .val (.long q3), .second, .val (.int p4), .val (.long bb), .second, .val (.long cc), .second, .val (.int (0 : Int32)), .val (.int (1 : Int32)), .val (.int (1 : Int32)), .val (.int (0 : Int32)), .val (.int (0 : Int32)), .unset, .unset] [(.long bb), (.long q1), (.int ((0 : Int32) + (1 : Int32)))])) _
          refine Own.go (fun t k => XS.lcmp X120.here hx rfl (hb hby at_112) rfl k) ?_
          show Own.Fin p e below (T120.setTop (mkF m 113 #[.val (.long q1), .second, .val (.long q2), .second, .val (.long q3), .second, .val (.int p4), .val (.long bb), .second, .val (.long cc), .second, .val (.int (0 : Int32)), .val (.int (1 : Int32)), .val (.int (1 : Int32)), .val (.int (0 : Int32)), .val (.int (0 : Int32)), .unset, .unset] [(.int (lcmpW q1 bb)), (.int ((0 : Int32) + (1 : Int32)))])) _
          have hc113_123 : ¬ ((lcmpW q1 bb) = (0 : Int32)) := fun q => hab.2.2 ((lw_eq _ _).mp q)
          refine Own.go (fun t k => XS.ifYes X120.here hx rfl (pc0 := 113) (pc' := 120) rfl (hb hby at_113) rfl ((if0 _ _).trans (feq hc113_123).2) (by decide) (by decide) k) ?_
          show Own.Fin p e below (T120.setTop (mkF m 120 #[.val (.long q1), .second, .val (.long q2), .second, .val (.long q3), .second, .val (.int p4), .val (.long bb), .second, .val (.long cc), .second, .val (.int (0 : Int32)), .val (.int (1 : Int32)), .val (.int (1 : Int32)), .val (.int (0 : Int32)), .val (.int (0 : Int32)), .unset, .unset] [(.int ((0 : Int32) + (1 : Int32)))])) _
          refine Own.go (fun t k => XS.iconst X120.here hx rfl (hb hby at_120) k) ?_
          show Own.Fin p e below (T120.setTop (mkF m 121 #[.val (.long q1), .second, .val (.long q2), .second, .val (.long q3), .second, .val (.int p4), .val (.long bb), .second, .val (.long cc), .second, .val (.int (0 : Int32)), .val (.int (1 : Int32)), .val (.int (1 : Int32)), .val (.int (0 : Int32)), .val (.int (0 : Int32)), .unset, .unset] [(.int (0 : Int32)), (.int ((0 : Int32) + (1 : Int32)))])) _
          refine Own.go (fun t k => XS.iadd X120.here hx rfl (hb hby at_121) rfl k) ?_
          show Own.Fin p e below (T120.setTop (mkF m 122 #[.val (.long q1), .second, .val (.long q2), .second, .val (.long q3), .second, .val (.int p4), .val (.long bb), .second, .val (.long cc), .second, .val (.int (0 : Int32)), .val (.int (1 : Int32)), .val (.int (1 : Int32)), .val (.int (0 : Int32)), .val (.int (0 : Int32)), .unset, .unset] [(.int (((0 : Int32) + (1 : Int32)) + (0 : Int32)))])) _
          refine Own.go (fun t k => XS.istore X120.here hx rfl (hb hby at_122) rfl (l' := #[.val (.long q1), .second, .val (.long q2), .second, .val (.long q3), .second, .val (.int p4), .val (.long bb), .second, .val (.long cc), .second, .val (.int (0 : Int32)), .val (.int (1 : Int32)), .val (.int (1 : Int32)), .val (.int (0 : Int32)), .val (.int (0 : Int32)), .val (.int (((0 : Int32) + (1 : Int32)) + (0 : Int32))), .unset]) rfl k) ?_
          show Own.Fin p e below (T120.setTop (mkF m 124 #[.val (.long q1), .second, .val (.long q2), .second, .val (.long q3), .second, .val (.int p4), .val (.long bb), .second, .val (.long cc), .second, .val (.int (0 : Int32)), .val (.int (1 : Int32)), .val (.int (1 : Int32)), .val (.int (0 : Int32)), .val (.int (0 : Int32)), .val (.int (((0 : Int32) + (1 : Int32)) + (0 : Int32))), .unset] [])) _
          refine Own.go (fun t k => XS.iload X120.here hx rfl (hb hby at_124) rfl k) ?_
          show Own.Fin p e below (T120.setTop (mkF m 126 #[.val (.long q1), .second, .val (.long q2), .second, .val (.long q3), .second, .val (.int p4), .val (.long bb), .second, .val (.long cc), .second, .val (.int (0 : Int32)), .val (.int (1 : Int32)), .val (.int (1 : Int32)), .val (.int (0 : Int32)), .val (.int (0 : Int32)), .val (.int (((0 : Int32) + (1 : Int32)) + (0 : Int32))), .unset] [(.int (0 : Int32))])) _
          have hc126_124 : (0 : Int32) = (0 : Int32) := by decide
          refine Own.go (fun t k => XS.ifYes X120.here hx rfl (pc0 := 126) (pc' := 139) rfl (hb hby at_126) rfl ((if0 _ _).trans (teq hc126_124).1) (by decide) (by decide) k) ?_
          show Own.Fin p e below (T120.setTop (mkF m 139 #[.val (.long q1), .second, .val (.long q2), .second, .val (.long q3), .second, .val (.int p4), .val (.long bb), .second, .val (.long cc), .second, .val (.int (0 : Int32)), .val (.int (1 : Int32)), .val (.int (1 : Int32)), .val (.int (0 : Int32)), .val (.int (0 : Int32)), .val (.int (((0 : Int32) + (1 : Int32)) + (0 : Int32))), .unset] [])) _
          refine Own.go (fun t k => XS.iconst X120.here hx rfl (hb hby at_139) k) ?_
          show Own.Fin p e below (T120.setTop (mkF m 140 #[.val (.long q1), .second, .val (.long q2), .second, .val (.long q3), .second, .val (.int p4), .val (.long bb), .second, .val (.long cc), .second, .val (.int (0 : Int32)), .val (.int (1 : Int32)), .val (.int (1 : Int32)), .val (.int (0 : Int32)), .val (.int (0 : Int32)), .val (.int (((0 : Int32) + (1 : Int32)) + (0 : Int32))), .unset] [(.int (1 : Int32))])) _
          refine Own.go (fun t k => XS.goto X120.here hx rfl (pc0 := 140) (pc' := 144) rfl (hb hby at_140) (by decide) (by decide) k) ?_
          show Own.Fin p e below (T120.setTop (mkF m 144 #[.val (.long q1), .second, .val (.long q2), .second, .val (.long q3), .second, .val (.int p4), .val (.long bb), .second, .val (.long cc), .second, .val (.int (0 : Int32)), .val (.int (1 : Int32)), .val (.int (1 : Int32)), .val (.int (0 : Int32)), .val (.int (0 : Int32)), .val (.int (((0 : Int32) + (1 : Int32)) + (0 : Int32))), .unset] [(.int (1 : Int32))])) _
          refine Own.go (fun t k => XS.istore X120.here hx rfl (hb hby at_144) rfl (l' := #[.val (.long q1), .second, .val (.long q2), .second, .val (.long q3), .second, .val (.int p4), .val (.long bb), .second, .val (.long cc), .second, .val (.int (0 : Int32)), .val (.int (1 : Int32)), .val (.int (1 : Int32)), .val (.int (0 : Int32)), .val (.int (0 : Int32)), .val (.int (((0 : Int32) + (1 : Int32)) + (0 : Int32))), .val (.int (1 : Int32))]) rfl k) ?_
          show Own.Fin p e below (T120.setTop (mkF m 146 #[.val (.long q1), .second, .val (.long q2), .second, .val (.long q3), .second, .val (.int p4), .val (.long bb), .second, .val (.long cc), .second, .val (.int (0 : Int32)), .val (.int (1 : Int32)), .val (.int (1 : Int32)), .val (.int (0 : Int32)), .val (.int (0 : Int32)), .val (.int (((0 : Int32) + (1 : Int32)) + (0 : Int32))), .val (.int (1 : Int32))] [])) _
          refine Own.go (fun t k => XS.iload X120.here hx rfl (hb hby at_146) rfl k) ?_
          show Own.Fin p e below (T120.setTop (mkF m 148 #[.val (.long q1), .second, .val (.long q2), .second, .val (.long q3), .second, .val (.int p4), .val (.long bb), .second, .val (.long cc), .second, .val (.int (0 : Int32)), .val (.int (1 : Int32)), .val (.int (1 : Int32)), .val (.int (0 : Int32)), .val (.int (0 : Int32)), .val (.int (((0 : Int32) + (1 : Int32)) + (0 : Int32))), .val (.int (1 : Int32))] [(.int (0 : Int32))])) _
          refine Own.go (fun t k => XS.iload X120.here hx rfl (hb hby at_148) rfl k) ?_
          show Own.Fin p e below (T120.setTop (mkF m 150 #[.val (.long q1), .second, .val (.long q2), .second, .val (.long q3), .second, .val (.int p4), .val (.long bb), .second, .val (.long cc), .second, .val (.int (0 : Int32)), .val (.int (1 : Int32)), .val (.int (1 : Int32)), .val (.int (0 : Int32)), .val (.int (0 : Int32)), .val (.int (((0 : Int32) + (1 : Int32)) + (0 : Int32))), .val (.int (1 : Int32))] [(.int (0 : Int32)), (.int (0 : Int32))])) _
          have hc150_125 : (0 : Int32) = (0 : Int32) := by decide
          refine Own.go (fun t k => XS.icmpNo X120.here hx rfl (hb hby at_150) rfl (teq hc150_125).2 k) ?_
          show Own.Fin p e below (T120.setTop (mkF m 153 #[.val (.long q1), .second, .val (.long q2), .second, .val (.long q3), .second, .val (.int p4), .val (.long bb), .second, .val (.long cc), .second, .val (.int (0 : Int32)), .val (.int (1 : Int32)), .val (.int (1 : Int32)), .val (.int (0 : Int32)), .val (.int (0 : Int32)), .val (.int (((0 : Int32) + (1 : Int32)) + (0 : Int32))), .val (.int (1 : Int32))] [])) _
          refine Own.go (fun t k => XS.iload X120.here hx rfl (hb hby at_153) rfl k) ?_
          show Own.Fin p e below (T120.setTop (mkF m 155 #[.val (.long q1), .second, .val (.long q2), .second, .val (.long q3), .second, .val (.int p4), .val (.long bb), .second, .val (.long cc), .second, .val (.int (0 : Int32)), .val (.int (1 : Int32)), .val (.int (1 : Int32)), .val (.int (0 : Int32)), .val (.int (0 : Int32)), .val (.int (((0 : Int32) + (1 : Int32)) + (0 : Int32))), .val (.int (1 : Int32))] [(.int (((0 : Int32) + (1 : Int32)) + (0 : Int32)))])) _
          refine Own.go (fun t k => XS.iconst X120.here hx rfl (hb hby at_155) k) ?_
          show Own.Fin p e below (T120.setTop (mkF m 156 #[.val (.long q1), .second, .val (.long q2), .second, .val (.long q3), .second, .val (.int p4), .val (.long bb), .second, .val (.long cc), .second, .val (.int (0 : Int32)), .val (.int (1 : Int32)), .val (.int (1 : Int32)), .val (.int (0 : Int32)), .val (.int (0 : Int32)), .val (.int (((0 : Int32) + (1 : Int32)) + (0 : Int32))), .val (.int (1 : Int32))] [(.int (1 : Int32)), (.int (((0 : Int32) + (1 : Int32)) + (0 : Int32)))])) _
          have hc156_126 : (((0 : Int32) + (1 : Int32)) + (0 : Int32)) = (1 : Int32) := by decide
          refine Own.go (fun t k => XS.icmpNo X120.here hx rfl (hb hby at_156) rfl (teq hc156_126).2 k) ?_
          show Own.Fin p e below (T120.setTop (mkF m 159 #[.val (.long q1), .second, .val (.long q2), .second, .val (.long q3), .second, .val (.int p4), .val (.long bb), .second, .val (.long cc), .second, .val (.int (0 : Int32)), .val (.int (1 : Int32)), .val (.int (1 : Int32)), .val (.int (0 : Int32)), .val (.int (0 : Int32)), .val (.int (((0 : Int32) + (1 : Int32)) + (0 : Int32))), .val (.int (1 : Int32))] [])) _
          refine Own.go (fun t k => XS.iload X120.here hx rfl (hb hby at_159) rfl k) ?_
          show Own.Fin p e below (T120.setTop (mkF m 161 #[.val (.long q1), .second, .val (.long q2), .second, .val (.long q3), .second, .val (.int p4), .val (.long bb), .second, .val (.long cc), .second, .val (.int (0 : Int32)), .val (.int (1 : Int32)), .val (.int (1 : Int32)), .val (.int (0 : Int32)), .val (.int (0 : Int32)), .val (.int (((0 : Int32) + (1 : Int32)) + (0 : Int32))), .val (.int (1 : Int32))] [(.int (1 : Int32))])) _
          have hc161_127 : ¬ ((1 : Int32) = (0 : Int32)) := by decide
          refine Own.go (fun t k => XS.ifNo X120.here hx rfl (hb hby at_161) rfl ((if0 _ _).trans (feq hc161_127).1) k) ?_
          show Own.Fin p e below (T120.setTop (mkF m 164 #[.val (.long q1), .second, .val (.long q2), .second, .val (.long q3), .second, .val (.int p4), .val (.long bb), .second, .val (.long cc), .second, .val (.int (0 : Int32)), .val (.int (1 : Int32)), .val (.int (1 : Int32)), .val (.int (0 : Int32)), .val (.int (0 : Int32)), .val (.int (((0 : Int32) + (1 : Int32)) + (0 : Int32))), .val (.int (1 : Int32))] [])) _
          refine Own.go (fun t k => XS.iconst X120.here hx rfl (hb hby at_164) k) ?_
          show Own.Fin p e below (T120.setTop (mkF m 165 #[.val (.long q1), .second, .val (.long q2), .second, .val (.long q3), .second, .val (.int p4), .val (.long bb), .second, .val (.long cc), .second, .val (.int (0 : Int32)), .val (.int (1 : Int32)), .val (.int (1 : Int32)), .val (.int (0 : Int32)), .val (.int (0 : Int32)), .val (.int (((0 : Int32) + (1 : Int32)) + (0 : Int32))), .val (.int (1 : Int32))] [(.int (1 : Int32))])) _
          refine Own.go (fun t k => XS.goto X120.here hx rfl (pc0 := 165) (pc' := 169) rfl (hb hby at_165) (by decide) (by decide) k) ?_
          show Own.Fin p e below (T120.setTop (mkF m 169 #[.val (.long q1), .second, .val (.long q2), .second, .val (.long q3), .second, .val (.int p4), .val (.long bb), .second, .val (.long cc), .second, .val (.int (0 : Int32)), .val (.int (1 : Int32)), .val (.int (1 : Int32)), .val (.int (0 : Int32)), .val (.int (0 : Int32)), .val (.int (((0 : Int32) + (1 : Int32)) + (0 : Int32))), .val (.int (1 : Int32))] [(.int (1 : Int32))])) _
          refine Own.retN X120 hx Bd.notSynchronized (t := .boolean) Bd.returns (by simp) (hb hby at_169) (by decide) (by decide) ?_
          exact ⟨rfl, N120⟩
      · by_cases hac : cc < q1
        · skip
          show Own.Fin p e below (s₁.setTop (mkF m 30 #[.val (.long q1), .second, .val (.long q2), .second, .val (.long q3), .second, .val (.int p4), .val (.long bb), .second, .val (.long cc), .second, .unset, .unset, .unset, .unset, .unset, .unset, .unset] [])) _
          refine Own.go (fun t k => XS.lloadN X0.here hx rfl (hb hby at_30) rfl k) ?_
          show Own.Fin p e below (s₁.setTop (mkF m 31 #[.val (.long q1), .second, .val (.long q2), .second, .val (.long q3), .second, .val (.int p4), .val (.long bb), .second, .val (.long cc), .second, .unset, .unset, .unset, .unset, .unset, .unset, .unset] [(.long q1)])) _
          refine Own.go (fun t k => XS.lload X0.here hx rfl (hb hby at_31) rfl k) ?_
          show Own.Fin p e below (s₁.setTop (mkF m 33 #[.val (.long q1), .second, .val (.long q2), .second, .val (.long q3), .second, .val (.int p4), .val (.long bb), .second, .val (.long cc), .second, .unset, .unset, .unset, .unset, .unset, .unset, .unset] [(.long bb), (.long q1)])) _
          refine Own.cS X0 hx hZ hown (hw _ (List.mem_of_getElem? (i := 0) rfl)) (hw _ (List.mem_of_getElem? (i := 1) rfl)) (hw _ (List.mem_of_getElem? (i := 2) rfl)) (hw _ (List.mem_of_getElem? (i := 3) rfl)) (by decide) (rm1 l Z a0 hw [] q1 bb h0 n0 Z0 ) (by decide) (W := 0) (by decide) (argsL := [(.long q1), (.long bb)]) (rest := []) (by rw [hml]; rfl) (lenOf pd_0 rfl) rfl (Nat.le_of_eq rfl) (hb hby at_33) e0 (by decide) (by decide) ?_
          intro T129 L129 v129 X129 hQ129
          obtain ⟨rfl, N129q, e129⟩ := hQ129
          have N129 := Fr.app N0 N129q
          rw [own_co0 hab.2.1]
          show Own.Fin p e below (T129.setTop (mkF m 36 #[.val (.long q1), .second, .val (.long q2), .second, .val (.long q3), .second, .val (.int p4), .val (.long bb), .second, .val (.long cc), .second, .unset, .unset, .unset, .unset, .unset, .unset, .unset] [(.int (0 : Int32))])) _
          refine Own.go (fun t k => XS.istore X129.here hx rfl (hb hby at_36) rfl (l' := #[.val (.long q1), .second, .val (.long q2), .second, .val (.long q3), .second, .val (.int p4), .val (.long bb), .second, .val (.long cc), .second, .val (.int (0 : Int32)), .unset, .unset, .unset, .unset, .unset, .unset]) rfl k) ?_
          show Own.Fin p e below (T129.setTop (mkF m 38 #[.val (.long q1), .second, .val (.long q2), .second, .val (.long q3), .second, .val (.int p4), .val (.long bb), .second, .val (.long cc), .second, .val (.int (0 : Int32)), .unset, .unset, .unset, .unset, .unset, .unset] [])) _
          refine Own.go (fun t k => XS.lload X129.here hx rfl (hb hby at_38) rfl k) ?_
          show Own.Fin p e below (T129.setTop (mkF m 40 #[.val (.long q1), .second, .val (.long q2), .second, .val (.long q3), .second, .val (.int p4), .val (.long bb), .second, .val (.long cc), .second, .val (.int (0 : Int32)), .unset, .unset, .unset, .unset, .unset, .unset] [(.long bb)])) _
          refine Own.go (fun t k => XS.lloadN X129.here hx rfl (hb hby at_40) rfl k) ?_
          show Own.Fin p e below (T129.setTop (mkF m 41 #[.val (.long q1), .second, .val (.long q2), .second, .val (.long q3), .second, .val (.int p4), .val (.long bb), .second, .val (.long cc), .second, .val (.int (0 : Int32)), .unset, .unset, .unset, .unset, .unset, .unset] [(.long q1), (.long bb)])) _
          refine Own.cS X129 hx hZ hown (hw _ (List.mem_of_getElem? (i := 0) rfl)) (hw _ (List.mem_of_getElem? (i := 1) rfl)) (hw _ (List.mem_of_getElem? (i := 2) rfl)) (hw _ (List.mem_of_getElem? (i := 3) rfl)) (by decide) (rm1 l Z a0 hw [] bb q1 h0 n0 Z0 ) (by decide) (W := 0) (by decide) (argsL := [(.long bb), (.long q1)]) (rest := []) (by rw [hml]; rfl) (lenOf pd_0 rfl) rfl (Nat.le_of_eq rfl) (hb hby at_41) e129 (by decide) (by decide) ?_
          intro T130 L130 v130 X130 hQ130
          obtain ⟨rfl, N130q, e130⟩ := hQ130
          have N130 := Fr.app N129 N130q
          rw [own_co1 hab.1]
          show Own.Fin p e below (T130.setTop (mkF m 44 #[.val (.long q1), .second, .val (.long q2), .second, .val (.long q3), .second, .val (.int p4), .val (.long bb), .second, .val (.long cc), .second, .val (.int (0 : Int32)), .unset, .unset, .unset, .unset, .unset, .unset] [(.int (1 : Int32))])) _
          refine Own.go (fun t k => XS.istore X130.here hx rfl (hb hby at_44) rfl (l' := #[.val (.long q1), .second, .val (.long q2), .second, .val (.long q3), .second, .val (.int p4), .val (.long bb), .second, .val (.long cc), .second, .val (.int (0 : Int32)), .val (.int (1 : Int32)), .unset, .unset, .unset, .unset, .unset]) rfl k) ?_
          show Own.Fin p e below (T130.setTop (mkF m 46 #[.val (.long q1), .second, .val (.long q2), .second, .val (.long q3), .second, .val (.int p4), .val (.long bb), .second, .val (.long cc), .second, .val (.int (0 : Int32)), .val (.int (1 : Int32)), .unset, .unset, .unset, .unset, .unset] [])) _
          refine Own.go (fun t k => XS.lload X130.here hx rfl (hb hby at_46) rfl k) ?_
          show Own.Fin p e below (T130.setTop (mkF m 48 #[.val (.long q1), .second, .val (.long q2), .second, .val (.long q3), .second, .val (.int p4), .val (.long bb), .second, .val (.long cc), .second, .val (.int (0 : Int32)), .val (.int (1 : Int32)), .unset, .unset, .unset, .unset, .unset] [(.long bb)])) _
          refine Own.go (fun t k => XS.lload X130.here hx rfl (hb hby at_48) rfl k) ?_
          show Own.Fin p e below (T130.setTop (mkF m 50 #[.val (.long q1), .second, .val (.long q2), .second, .val (.long q3), .second, .val (.int p4), .val (.long bb), .second, .val (.long cc), .second, .val (.int (0 : Int32)), .val (.int (1 : Int32)), .unset, .unset, .unset, .unset, .unset] [(.long cc), (.long bb)])) _
          refine Own.cS X130 hx hZ hown (hw _ (List.mem_of_getElem? (i := 0) rfl)) (hw _ (List.mem_of_getElem? (i := 1) rfl)) (hw _ (List.mem_of_getElem? (i := 2) rfl)) (hw _ (List.mem_of_getElem? (i := 3) rfl)) (by decide) (rm1 l Z a0 hw [] bb cc h0 n0 Z0 ) (by decide) (W := 0) (by decide) (argsL := [(.long bb), (.long cc)]) (rest := []) (by rw [hml]; rfl) (lenOf pd_0 rfl) rfl (Nat.le_of_eq rfl) (hb hby at_50) e130 (by decide) (by decide) ?_
          intro T131 L131 v131 X131 hQ131
          obtain ⟨rfl, N131q, e131⟩ := hQ131
          have N131 := Fr.app N130 N131q
          rw [own_co0 hbc]
          show Own.Fin p e below (T131.setTop (mkF m 53 #[.val (.long q1), .second, .val (.long q2), .second, .val (.long q3), .second, .val (.int p4), .val (.long bb), .second, .val (.long cc), .second, .val (.int (0 : Int32)), .val (.int (1 : Int32)), .unset, .unset, .unset, .unset, .unset] [(.int (0 : Int32))])) _
          refine Own.go (fun t k => XS.istore X131.here hx rfl (hb hby at_53) rfl (l' := #[.val (.long q1), .second, .val (.long q2), .second, .val (.long q3), .second, .val (.int p4), .val (.long bb), .second, .val (.long cc), .second, .val (.int (0 : Int32)), .val (.int (1 : Int32)), .val (.int (0 : Int32)), .unset, .unset, .unset, .unset]) rfl k) ?_
          show Own.Fin p e below (T131.setTop (mkF m 55 #[.val (.long q1), .second, .val (.long q2), .second, .val (.long q3), .second, .val (.int p4), .val (.long bb), .second, .val (.long cc), .second, .val (.int (0 : Int32)), .val (.int (1 : Int32)), .val (.int (0 : Int32)), .unset, .unset, .unset, .unset] [])) _
          refine Own.go (fun t k => XS.lloadN X131.here hx rfl (hb hby at_55) rfl k) ?_
          show Own.Fin p e below (T131.setTop (mkF m 56 #[.val (.long q1), .second, .val (.long q2), .second, .val (.long q3), .second, .val (.int p4), .val (.long bb), .second, .val (.long cc), .second, .val (.int (0 : Int32)), .val (.int (1 : Int32)), .val (.int (0 : Int32)), .unset, .unset, .unset, .unset] [(.long q1)])) _
          refine Own.go (fun t k => XS.lload X131.here hx rfl (hb hby at_56) rfl k) ?_
          show Own.Fin p e below (T131.setTop (mkF m 58 #[.val (.long q1), .second, .val (.long q2), .second, .val (.long q3), .second, .val (.int p4), .val (.long bb), .second, .val (.long cc), .second, .val (.int (0 : Int32)), .val (.int (1 : Int32)), .val (.int (0 : Int32)), .unset, .unset, .unset, .unset] [(.long cc), (.long q1)])) _
          refine Own.cS X131 hx hZ hown (hw _ (List.mem_of_getElem? (i := 0) rfl)) (hw _ (List.mem_of_getElem? (i := 1) rfl)) (hw _ (List.mem_of_getElem? (i := 2) rfl)) (hw _ (List.mem_of_getElem? (i := 3) rfl)) (by decide) (rm1 l Z a0 hw [] q1 cc h0 n0 Z0 ) (by decide) (W := 0) (by decide) (argsL := [(.long q1), (.long cc)]) (rest := []) (by rw [hml]; rfl) (lenOf pd_0 rfl) rfl (Nat.le_of_eq rfl) (hb hby at_58) e131 (by decide) (by decide) ?_
          intro T132 L132 v132 X132 hQ132
          obtain ⟨rfl, N132q, e132⟩ := hQ132
          have N132 := Fr.app N131 N132q
          rw [own_co1 hac]
          show Own.Fin p e below (T132.setTop (mkF m 61 #[.val (.long q1), .second, .val (.long q2), .second, .val (.long q3), .second, .val (.int p4), .val (.long bb), .second, .val (.long cc), .second, .val (.int (0 : Int32)), .val (.int (1 : Int32)), .val (.int (0 : Int32)), .unset, .unset, .unset, .unset] [(.int (1 : Int32))])) _
          refine Own.go (fun t k => XS.istore X132.here hx rfl (hb hby at_61) rfl (l' := #[.val (.long q1), .second, .val (.long q2), .second, .val (.long q3), .second, .val (.int p4), .val (.long bb), .second, .val (.long cc), .second, .val (.int (0 : Int32)), .val (.int (1 : Int32)), .val (.int (0 : Int32)), .val (.int (1 : Int32)), .unset, .unset, .unset]) rfl k) ?_
          show Own.Fin p e below (T132.setTop (mkF m 63 #[.val (.long q1), .second, .val (.long q2), .second, .val (.long q3), .second, .val (.int p4), .val (.long bb), .second, .val (.long cc), .second, .val (.int (0 : Int32)), .val (.int (1 : Int32)), .val (.int (0 : Int32)), .val (.int (1 : Int32)), .unset, .unset, .unset] [])) _
          refine Own.go (fun t k => XS.lloadN X132.here hx rfl (hb hby at_63) rfl k) ?_
          show Own.Fin p e below (T132.setTop (mkF m 64 #[.val (.long q1), .second, .val (.long q2), .second, .val (.long q3), .second, .val (.int p4), .val (.long bb), .second, .val (.long cc), .second, .val (.int (0 : Int32)), .val (.int (1 : Int32)), .val (.int (0 : Int32)), .val (.int (1 : Int32)), .unset, .unset, .unset] [(.long q1)])) _
          refine Own.go (fun t k => XS.lload X132.here hx rfl (hb hby at_64) rfl k) ?_
          show Own.Fin p e below (T132.setTop (mkF m 66 #[.val (.long q1), .second, .val (.long q2), .second, .val (.long q3), .second, .val (.int p4), .val (.long bb), .second, .val (.long cc), .second, .val (.int (0 : Int32)), .val (.int (1 : Int32)), .val (.int (0 : Int32)), .val (.int (1 : Int32)), .unset, .unset, .unset] [(.long bb), (.long q1)])) _
          refine Own.cS X132 hx hZ hown (hw _ (List.mem_of_getElem? (i := 4) rfl)) (hw _ (List.mem_of_getElem? (i := 5) rfl)) (hw _ (List.mem_of_getElem? (i := 6) rfl)) (hw _ (List.mem_of_getElem? (i := 7) rfl)) (by decide) (rm2 l Z a0 hw [] q1 bb h0 n0 Z0 ) (by decide) (W := 0) (by decide) (argsL := [(.long q1), (.long bb)]) (rest := []) (by rw [hml]; rfl) (lenOf pd_1 rfl) rfl (Nat.le_of_eq rfl) (hb hby at_66) e132 (by decide) (by decide) ?_
          intro T133 L133 v133 X133 hQ133
          obtain ⟨rfl, N133q, e133⟩ := hQ133
          have N133 := Fr.app N132 N133q
          rw [own_mx1 hab.1]
          show Own.Fin p e below (T133.setTop (mkF m 69 #[.val (.long q1), .second, .val (.long q2), .second, .val (.long q3), .second, .val (.int p4), .val (.long bb), .second, .val (.long cc), .second, .val (.int (0 : Int32)), .val (.int (1 : Int32)), .val (.int (0 : Int32)), .val (.int (1 : Int32)), .unset, .unset, .unset] [(.long bb)])) _
          refine Own.go (fun t k => XS.lloadN X133.here hx rfl (hb hby at_69) rfl k) ?_
          show Own.Fin p e below (T133.setTop (mkF m 70 #[.val (.long q1), .second, .val (.long q2), .second, .val (.long q3), .second, .val (.int p4), .val (.long bb), .second, .val (.long cc), .second, .val (.int (0 : Int32)), .val (.int (1 : Int32)), .val (.int (0 : Int32)), .val (.int (1 : Int32)), .unset, .unset, .unset] [(.long q1), (.long bb)])) _
          refine Own.go (fun t k => XS.lcmp X133.here hx rfl (hb hby at_70) rfl k) ?_
          show Own.Fin p e below (T133.setTop (mkF m 71 #[.val (.long q1), .second, .val (.long q2), .second, .val (.long q3), .second, .val (.int p4), .val (.long bb), .second, .val (.long cc), .second, .val (.int (0 : Int32)), .val (.int (1 : Int32)), .val (.int (0 : Int32)), .val (.int (1 : Int32)), .unset, .unset, .unset] [(.int (lcmpW bb q1))])) _
          have hc71_133 : ¬ ((lcmpW bb q1) = (0 : Int32)) := fun q => (Ne.symm hab.2.2) ((lw_eq _ _).mp q)
          refine Own.go (fun t k => XS.ifYes X133.here hx rfl (pc0 := 71) (pc' := 85) rfl (hb hby at_71) rfl ((if0 _ _).trans (feq hc71_133).2) (by decide) (by decide) k) ?_
          show Own.Fin p e below (T133.setTop (mkF m 85 #[.val (.long q1), .second, .val (.long q2), .second, .val (.long q3), .second, .val (.int p4), .val (.long bb), .second, .val (.long cc), .second, .val (.int (0 : Int32)), .val (.int (1 : Int32)), .val (.int (0 : Int32)), .val (.int (1 : Int32)), .unset, .unset, .unset] [])) _
          refine Own.go (fun t k => XS.iconst X133.here hx rfl (hb hby at_85) k) ?_
          show Own.Fin p e below (T133.setTop (mkF m 86 #[.val (.long q1), .second, .val (.long q2), .second, .val (.long q3), .second, .val (.int p4), .val (.long bb), .second, .val (.long cc), .second, .val (.int (0 : Int32)), .val (.int (1 : Int32)), .val (.int (0 : Int32)), .val (.int (1 : Int32)), .unset, .unset, .unset] [(.int (0 : Int32))])) _
          refine Own.go (fun t k => XS.istore X133.here hx rfl (hb hby at_86) rfl (l' := #[.val (.long q1), .second, .val (.long q2), .second, .val (.long q3), .second, .val (.int p4), .val (.long bb), .second, .val (.long cc), .second, .val (.int (0 : Int32)), .val (.int (1 : Int32)), .val (.int (0 : Int32)), .val (.int (1 : Int32)), .val (.int (0 : Int32)), .unset, .unset]) rfl k) ?_
          show Own.Fin p e below (T133.setTop (mkF m 88 #[.val (.long q1), .second, .val (.long q2), .second, .val (.long q3), .second, .val (.int p4), .val (.long bb), .second, .val (.long cc), .second, .val (.int (0 : Int32)), .val (.int (1 : Int32)), .val (.int (0 : Int32)), .val (.int (1 : Int32)), .val (.int (0 : Int32)), .unset, .unset] [])) _
          refine Own.go (fun t k => XS.iload X133.here hx rfl (hb hby at_88) rfl k) ?_
          show Own.Fin p e below (T133.setTop (mkF m 90 #[.val (.long q1), .second, .val (.long q2), .second, .val (.long q3), .second, .val (.int p4), .val (.long bb), .second, .val (.long cc), .second, .val (.int (0 : Int32)), .val (.int (1 : Int32)), .val (.int (0 : Int32)), .val (.int (1 : Int32)), .val (.int (0 : Int32)), .unset, .unset] [(.int (0 : Int32))])) _
          have hc90_134 : (0 : Int32) = (0 : Int32) := by decide
          refine Own.go (fun t k => XS.ifYes X133.here hx rfl (pc0 := 90) (pc' := 97) rfl (hb hby at_90) rfl ((if0 _ _).trans (teq hc90_134).1) (by decide) (by decide) k) ?_
          show Own.Fin p e below (T133.setTop (mkF m 97 #[.val (.long q1), .second, .val (.long q2), .second, .val (.long q3), .second, .val (.int p4), .val (.long bb), .second, .val (.long cc), .second, .val (.int (0 : Int32)), .val (.int (1 : Int32)), .val (.int (0 : Int32)), .val (.int (1 : Int32)), .val (.int (0 : Int32)), .unset, .unset] [])) _
          refine Own.go (fun t k => XS.iconst X133.here hx rfl (hb hby at_97) k) ?_
          show Own.Fin p e below (T133.setTop (mkF m 98 #[.val (.long q1), .second, .val (.long q2), .second, .val (.long q3), .second, .val (.int p4), .val (.long bb), .second, .val (.long cc), .second, .val (.int (0 : Int32)), .val (.int (1 : Int32)), .val (.int (0 : Int32)), .val (.int (1 : Int32)), .val (.int (0 : Int32)), .unset, .unset] [(.int (0 : Int32))])) _
          refine Own.go (fun t k => XS.iload X133.here hx rfl (hb hby at_98) rfl k) ?_
          show Own.Fin p e below (T133.setTop (mkF m 100 #[.val (.long q1), .second, .val (.long q2), .second, .val (.long q3), .second, .val (.int p4), .val (.long bb), .second, .val (.long cc), .second, .val (.int (0 : Int32)), .val (.int (1 : Int32)), .val (.int (0 : Int32)), .val (.int (1 : Int32)), .val (.int (0 : Int32)), .unset, .unset] [(.int (1 : Int32)), (.int (0 : Int32))])) _
          have hc100_135 : ¬ ((1 : Int32) = (0 : Int32)) := by decide
          refine Own.go (fun t k => XS.ifNo X133.here hx rfl (hb hby at_100) rfl ((if0 _ _).trans (feq hc100_135).1) k) ?_
          show Own.Fin p e below (T133.setTop (mkF m 103 #[.val (.long q1), .second, .val (.long q2), .second, .val (.long q3), .second, .val (.int p4), .val (.long bb), .second, .val (.long cc), .second, .val (.int (0 : Int32)), .val (.int (1 : Int32)), .val (.int (0 : Int32)), .val (.int (1 : Int32)), .val (.int (0 : Int32)), .unset, .unset] [(.int (0 : Int32))])) _
          refine Own.go (fun t k => XS.iconst X133.here hx rfl (hb hby at_103) k) ?_
          show Own.Fin p e below (T133.setTop (mkF m 104 #[.val (.long q1), .second, .val (.long q2), .second, .val (.long q3), .second, .val (.int p4), .val (.long bb), .second, .val (.long cc), .second, .val (.int (0 : Int32)), .val (.int (1 : Int32)), .val (.int (0 : Int32)), .val (.int (1 : Int32)), .val (.int (0 : Int32)), .unset, .unset] [(.int (1 : Int32)), (.int (0 : Int32))])) _
          refine Own.go (fun t k => XS.goto X133.here hx rfl (pc0 := 104) (pc' := 108) rfl (hb hby at_104) (by decide) (by decide) k) ?_
          show Own.Fin p e below (T133.setTop (mkF m 108 #[.val (.long q1), .second, .val (.long q2), .second, .val (.long q3), .second, .val (.int p4), .val (.long bb), .second, .val (.long cc), .second, .val (.int (0 : Int32)), .val (.int (1 : Int32)), .val (.int (0 : Int32)), .val (.int (1 : Int32)), .val (.int (0 : Int32)), .unset, .unset] [(.int (1 : Int32)), (.int (0 : Int32))])) _
          refine Own.go (fun t k => XS.iadd X133.here hx rfl (hb hby at_108) rfl k) ?_
          show Own.Fin p e below (T133.setTop (mkF m 109 #[.val (.long q1), .second, .val (.long q2), .second, .val (.long q3), .second, .val (.int p4), .val (.long bb), .second, .val (.long cc), .second, .val (.int (0 : Int32)), .val (.int (1 : Int32)), .val (.int (0 : Int32)), .val (.int (1 : Int32)), .val (.int (0 : Int32)), .unset, .unset] [(.int ((0 : Int32) + (1 : Int32)))])) _
          refine Own.go (fun t k => XS.lloadN X133.here hx rfl (hb hby at_109) rfl k) ?_
          show Own.Fin p e below (T133.setTop (mkF m 110 #[.val (.long q1), .second, .val (.long q2), .second, .val (.long q3), .second, .val (.int p4), .val (.long bb), .second, .val (.long cc), .second, .val (.int (0 : Int32)), .val (.int (1 : Int32)), .val (.int (0 : Int32)), .val (.int (1 : Int32)), .val (.int (0 : Int32)), .unset, .unset] [(.long q1), (.int ((0 : Int32) + (1 : Int32)))])) _
          refine Own.go (fun t k => XS.lload X133.here hx rfl (hb hby at_110) rfl k) ?_
          show Own.Fin p e below (T133.setTop (mkF m 112 #[.val (.long q1), .second, .val (.long q2), .second, .val (.long q3), .second, .val (.int p4), .val (.long bb), .second, .val (.long cc), .second, .val (.int (0 : Int32)), .val (.int (1 : Int32)), .val (.int (0 : Int32)), .val (.int (1 : Int32)), .val (.int (0 : Int32)), .unset, .unset] [(.long bb), (.long q1), (.int ((0 : Int32) + (1 : Int32)))])) _
          refine Own.go (fun t k => XS.lcmp X133.here hx rfl (hb hby at_112) rfl k) ?_
          show Own.Fin p e below (T133.setTop (mkF m 113 #[.val (.long q1), .second, .val (.long q2), .second, .val (.long q3), .second, .val (.int p4), .val (.long bb), .second, .val (.long cc), .second, .val (.int (0 : Int32)), .val (.int (1 : Int32)), .val (.int (0 : Int32)), .val (.int (1 : Int32)), .val (.int (0 : Int32)), .unset, .unset] [(.int (lcmpW q1 bb)), (.int ((0 : Int32) + (1 : Int32)))])) _
          have hc113_136 : ¬ ((lcmpW q1 bb) = (0 : Int32)) := fun q => hab.2.2 ((lw_eq _ _).mp q)
          refine Own.go (fun t k => XS.ifYes X133.here hx rfl (pc0 := 113) (pc' := 120) rfl (hb hby at_113) rfl ((if0 _ _).trans (feq hc113_136).2) (by decide) (by decide) k) ?_
          show Own.Fin p e below (T133.setTop (mkF m 120 #[.val (.long q1), .second, .val (.long q2), .second, .val (.long q3), .second, .val (.int p4), .val (.long bb), .second, .val (.long cc), .second, .val (.int (0 : Int32)), .val (.int (1 : Int32)), .val (.int (0 : Int32)), .val (.int (1 : Int32)), .val (.int (0 : Int32)), .unset, .unset] [(.int ((0 : Int32) + (1 : Int32)))])) _
          refine Own.go (fun t k => XS.iconst X133.here hx rfl (hb hby at_120) k) ?_
          show Own.Fin p e below (T133.setTop (mkF m 121 #[.val (.long q1), .second, .val (.long q2), .second, .val (.long q3), .second, .val (.int p4), .val (.long bb), .second, .val (.long cc), .second, .val (.int (0 : Int32)), .val (.int (1 : Int32)), .val (.int (0 : Int32)), .val (.int (1 : Int32)), .val (.int (0 : Int32)), .unset, .unset] [(.int (0 : Int32)), (.int ((0 : Int32) + (1 : Int32)))])) _
          refine Own.go (fun t k => XS.iadd X133.here hx rfl (hb hby at_121) rfl k) ?_
          show Own.Fin p e below (T133.setTop (mkF m 122 #[.val (.long q1), .second, .val (.long q2), .second, .val (.long q3), .second, .val (.int p4), .val (.long bb), .second, .val (.long cc), .second, .val (.int (0 : Int32)), .val (.int (1 : Int32)), .val (.int (0 : Int32)), .val (.int (1 : Int32)), .val (.int (0 : Int32)), .unset, .unset] [(.int (((0 : Int32) + (1 : Int32)) + (0 : Int32)))])) _
          refine Own.go (fun t k => XS.istore X133.here hx rfl (hb hby at_122) rfl (l' := #[.val (.long q1), .second, .val (.long q2), .second, .val (.long q3), .second, .val (.int p4), .val (.long bb), .second, .val (.long cc), .second, .val (.int (0 : Int32)), .val (.int (1 : Int32)), .val (.int (0 : Int32)), .val (.int (1 : Int32)), .val (.int (0 : Int32)), .val (.int (((0 : Int32) + (1 : Int32)) + (0 : Int32))), .unset]) rfl k) ?_
          show Own.Fin p e below (T133.setTop (mkF m 124 #[.val (.long q1), .second, .val (.long q2), .second, .val (.long q3), .second, .val (.int p4), .val (.long bb), .second, .val (.long cc), .second, .val (.int (0 : Int32)), .val (.int (1 : Int32)), .val (.int (0 : Int32)), .val (.int (1 : Int32)), .val (.int (0 : Int32)), .val (.int (((0 : Int32) + (1 : Int32)) + (0 : Int32))), .unset] [])) _
          refine Own.go (fun t k => XS.iload X133.here hx rfl (hb hby at_124) rfl k) ?_
          show Own.Fin p e below (T133.setTop (mkF m 126 #[.val (.long q1), .second, .val (.long q2), .second, .val (.long q3), .second, .val (.int p4), .val (.long bb), .second, .val (.long cc), .second, .val (.int (0 : Int32)), .val (.int (1 : Int32)), .val (.int (0 : Int32)), .val (.int (1 : Int32)), .val (.int (0 : Int32)), .val (.int (((0 : Int32) + (1 : Int32)) + (0 : Int32))), .unset] [(.int (0 : Int32))])) _
          have hc126_137 : (0 : Int32) = (0 : Int32) := by decide
          refine Own.go (fun t k => XS.ifYes X133.here hx rfl (pc0 := 126) (pc' := 139) rfl (hb hby at_126) rfl ((if0 _ _).trans (teq hc126_137).1) (by decide) (by decide) k) ?_
          show Own.Fin p e below (T133.setTop (mkF m 139 #[.val (.long q1), .second, .val (.long q2), .second, .val (.long q3), .second, .val (.int p4), .val (.long bb), .second, .val (.long cc), .second, .val (.int (0 : Int32)), .val (.int (1 : Int32)), .val (.int (0 : Int32)), .val (.int (1 : Int32)), .val (.int (0 : Int32)), .val (.int (((0 : Int32) + (1 : Int32)) + (0 : Int32))), .unset] [])) _
          refine Own.go (fun t k => XS.iconst X133.here hx rfl (hb hby at_139) k) ?_
          show Own.Fin p e below (T133.setTop (mkF m 140 #[.val (.long q1), .second, .val (.long q2), .second, .val (.long q3), .second, .val (.int p4), .val (.long bb), .second, .val (.long cc), .second, .val (.int (0 : Int32)), .val (.int (1 : Int32)), .val (.int (0 : Int32)), .val (.int (1 : Int32)), .val (.int (0 : Int32)), .val (.int (((0 : Int32) + (1 : Int32)) + (0 : Int32))), .unset] [(.int (1 : Int32))])) _
          refine Own.go (fun t k => XS.goto X133.here hx rfl (pc0 := 140) (pc' := 144) rfl (hb hby at_140) (by decide) (by decide) k) ?_
          show Own.Fin p e below (T133.setTop (mkF m 144 #[.val (.long q1), .second, .val (.long q2), .second, .val (.long q3), .second, .val (.int p4), .val (.long bb), .second, .val (.long cc), .second, .val (.int (0 : Int32)), .val (.int (1 : Int32)), .val (.int (0 : Int32)), .val (.int (1 : Int32)), .val (.int (0 : Int32)), .val (.int (((0 : Int32) + (1 : Int32)) + (0 : Int32))), .unset] [(.int (1 : Int32))])) _
          refine Own.go (fun t k => XS.istore X133.here hx rfl (hb hby at_144) rfl (l' := #[.val (.long q1), .second, .val (.long q2), .second, .val (.long q3), .second, .val (.int p4), .val (.long bb), .second, .val (.long cc), .second, .val (.int (0 : Int32)), .val (.int (1 : Int32)), .val (.int (0 : Int32)), .val (.int (1 : Int32)), .val (.int (0 : Int32)), .val (.int (((0 : Int32) + (1 : Int32)) + (0 : Int32))), .val (.int (1 : Int32))]) rfl k) ?_
          show Own.Fin p e below (T133.setTop (mkF m 146 #[.val (.long q1), .second, .val (.long q2), .second, .val (.long q3), .second, .val (.int p4), .val (.long bb), .second, .val (.long cc), .second, .val (.int (0 : Int32)), .val (.int (1 : Int32)), .val (.int (0 : Int32)), .val (.int (1 : Int32)), .val (.int (0 : Int32)), .val (.int (((0 : Int32) + (1 : Int32)) + (0 : Int32))), .val (.int (1 : Int32))] [])) _
          refine Own.go (fun t k => XS.iload X133.here hx rfl (hb hby at_146) rfl k) ?_
          show Own.Fin p e below (T133.setTop (mkF m 148 #[.val (.long q1), .second, .val (.long q2), .second, .val (.long q3), .second, .val (.int p4), .val (.long bb), .second, .val (.long cc), .second, .val (.int (0 : Int32)), .val (.int (1 : Int32)), .val (.int (0 : Int32)), .val (.int (1 : Int32)), .val (.int (0 : Int32)), .val (.int (((0 : Int32) + (1 : Int32)) + (0 : Int32))), .val (.int (1 : Int32))] [(.int (0 : Int32))])) _
          refine Own.go (fun t k => XS.iload X133.here hx rfl (hb hby at_148) rfl k) ?_
          show Own.Fin p e below (T133.setTop (mkF m 150 #[.val (.long q1), .second, .val (.long q2), .second, .val (.long q3), .second, .val (.int p4), .val (.long bb), .second, .val (.long cc), .second, .val (.int (0 : Int32)), .val (.int (1 : Int32)), .val (.int (0 : Int32)), .val (.int (1 : Int32)), .val (.int (0 : Int32)), .val (.int (((0 : Int32) + (1 : Int32)) + (0 : Int32))), .val (.int (1 : Int32))] [(.int (0 : Int32)), (.int (0 : Int32))])) _
          have hc150_138 : (0 : Int32) = (0 : Int32) := by decide
          refine Own.go (fun t k => XS.icmpNo X133.here hx rfl (hb hby at_150) rfl (teq hc150_138).2 k) ?_
          show Own.Fin p e below (T133.setTop (mkF m 153 #[.val (.long q1), .second, .val (.long q2), .second, .val (.long q3), .second, .val (.int p4), .val (.long bb), .second, .val (.long cc), .second, .val (.int (0 : Int32)), .val (.int (1 : Int32)), .val (.int (0 : Int32)), .val (.int (1 : Int32)), .val (.int (0 : Int32)), .val (.int (((0 : Int32) + (1 : Int32)) + (0 : Int32))), .val (.int (1 : Int32))] [])) _
          refine Own.go (fun t k => XS.iload X133.here hx rfl (hb hby at_153) rfl k) ?_
          show Own.Fin p e below (T133.setTop (mkF m 155 #[.val (.long q1), .second, .val (.long q2), .second, .val (.long q3), .second, .val (.int p4), .val (.long bb), .second, .val (.long cc), .second, .val (.int (0 : Int32)), .val (.int (1 : Int32)), .val (.int (0 : Int32)), .val (.int (1 : Int32)), .val (.int (0 : Int32)), .val (.int (((0 : Int32) + (1 : Int32)) + (0 : Int32))), .val (.int (1 : Int32))] [(.int (((0 : Int32) + (1 : Int32)) + (0 : Int32)))])) _
          refine Own.go (fun t k => XS.iconst X133.here hx rfl (hb hby at_155) k) ?_
          show Own.Fin p e below (T133.setTop (mkF m 156 #[.val (.long q1), .second, .val (.long q2), .second, .val (.long q3), .second, .val (.int p4), .val (.long bb), .second, .val (.long cc), .second, .val (.int (0 : Int32)), .val (.int (1 : Int32)), .val (.int (0 : Int32)), .val (.int (1 : Int32)), .val (.int (0 : Int32)), .val (.int (((0 : Int32) + (1 : Int32)) + (0 : Int32))), .val (.int (1 : Int32))] [(.int (1 : Int32)), (.int (((0 : Int32) + (1 : Int32)) + (0 : Int32)))])) _
          have hc156_139 : (((0 : Int32) + (1 : Int32)) + (0 : Int32)) = (1 : Int32) := by decide
          refine Own.go (fun t k => XS.icmpNo X133.here hx rfl (hb hby at_156) rfl (teq hc156_139).2 k) ?_
          show Own.Fin p e below (T133.setTop (mkF m 159 #[.val (.long q1), .second, .val (.long q2), .second, .val (.long q3), .second, .val (.int p4), .val (.long bb), .second, .val (.long cc), .second, .val (.int (0 : Int32)), .val (.int (1 : Int32)), .val (.int (0 : Int32)), .val (.int (1 : Int32)), .val (.int (0 : Int32)), .val (.int (((0 : Int32) + (1 : Int32)) + (0 : Int32))), .val (.int (1 : Int32))] [])) _
          refine Own.go (fun t k => XS.iload X133.here hx rfl (hb hby at_159) rfl k) ?_
          show Own.Fin p e below (T133.setTop (mkF m 161 #[.val (.long q1), .second, .val (.long q2), .second, .val (.long q3), .second, .val (.int p4), .val (.long bb), .second, .val (.long cc), .second, .val (.int (0 : Int32)), .val (.int (1 : Int32)), .val (.int (0 : Int32)), .val (.int (1 : Int32)), .val (.int (0 : Int32)), .val (.int (((0 : Int32) + (1 : Int32)) + (0 : Int32))), .val (.int (1 : Int32))] [(.int (1 : Int32))])) _
          have hc161_140 : ¬ ((1 : Int32) = (0 : Int32)) := by decide
          refine Own.go (fun t k => XS.ifNo X133.here hx rfl (hb hby at_161) rfl ((if0 _ _).trans (feq hc161_140).1) k) ?_
          show Own.Fin p e below (T133.setTop (mkF m 164 #[.val (.long q1), .second, .val (.long q2), .second, .val (.long q3), .second, .val (.int p4), .val (.long bb), .second, .val (.long cc), .second, .val (.int (0 : Int32)), .val (.int (1 : Int32)), .val (.int (0 : Int32)), .val (.int (1 : Int32)), .val (.int (0 : Int32)), .val (.int (((0 : Int32) + (1 : Int32)) + (0 : Int32))), .val (.int (1 : Int32))] [])) _
          refine Own.go (fun t k => XS.iconst X133.here hx rfl (hb hby at_164) k) ?_
          show Own.Fin p e below (T133.setTop (mkF m 165 #[.val (.long q1), .second, .val (.long q2), .second, .val (.long q3), .second, .val (.int p4), .val (.long bb), .second, .val (.long cc), .second, .val (.int (0 : Int32)), .val (.int (1 : Int32)), .val (.int (0 : Int32)), .val (.int (1 : Int32)), .val (.int (0 : Int32)), .val (.int (((0 : Int32) + (1 : Int32)) + (0 : Int32))), .val (.int (1 : Int32))] [(.int (1 : Int32))])) _
          refine Own.go (fun t k => XS.goto X133.here hx rfl (pc0 := 165) (pc' := 169) rfl (hb hby at_165) (by decide) (by decide) k) ?_
          show Own.Fin p e below (T133.setTop (mkF m 169 #[.val (.long q1), .second, .val (.long q2), .second, .val (.long q3), .second, .val (.int p4), .val (.long bb), .second, .val (.long cc), .second, .val (.int (0 : Int32)), .val (.int (1 : Int32)), .val (.int (0 : Int32)), .val (.int (1 : Int32)), .val (.int (0 : Int32)), .val (.int (((0 : Int32) + (1 : Int32)) + (0 : Int32))), .val (.int (1 : Int32))] [(.int (1 : Int32))])) _
          refine Own.retN X133 hx Bd.notSynchronized (t := .boolean) Bd.returns (by simp) (hb hby at_169) (by decide) (by decide) ?_
          exact ⟨rfl, N133⟩
        · skip
          show Own.Fin p e below (s₁.setTop (mkF m 30 #[.val (.long q1), .second, .val (.long q2), .second, .val (.long q3), .second, .val (.int p4), .val (.long bb), .second, .val (.long cc), .second, .unset, .unset, .unset, .unset, .unset, .unset, .unset] [])) _
          refine Own.go (fun t k => XS.lloadN X0.here hx rfl (hb hby at_30) rfl k) ?_
          show Own.Fin p e below (s₁.setTop (mkF m 31 #[.val (.long q1), .second, .val (.long q2), .second, .val (.long q3), .second, .val (.int p4), .val (.long bb), .second, .val (.long cc), .second, .unset, .unset, .unset, .unset, .unset, .unset, .unset] [(.long q1)])) _
          refine Own.go (fun t k => XS.lload X0.here hx rfl (hb hby at_31) rfl k) ?_
          show Own.Fin p e below (s₁.setTop (mkF m 33 #[.val (.long q1), .second, .val (.long q2), .second, .val (.long q3), .second, .val (.int p4), .val (.long bb), .second, .val (.long cc), .second, .unset, .unset, .unset, .unset, .unset, .unset, .unset] [(.long bb), (.long q1)])) _
          refine Own.cS X0 hx hZ hown (hw _ (List.mem_of_getElem? (i := 0) rfl)) (hw _ (List.mem_of_getElem? (i := 1) rfl)) (hw _ (List.mem_of_getElem? (i := 2) rfl)) (hw _ (List.mem_of_getElem? (i := 3) rfl)) (by decide) (rm1 l Z a0 hw [] q1 bb h0 n0 Z0 ) (by decide) (W := 0) (by decide) (argsL := [(.long q1), (.long bb)]) (rest := []) (by rw [hml]; rfl) (lenOf pd_0 rfl) rfl (Nat.le_of_eq rfl) (hb hby at_33) e0 (by decide) (by decide) ?_
          intro T142 L142 v142 X142 hQ142
          obtain ⟨rfl, N142q, e142⟩ := hQ142
          have N142 := Fr.app N0 N142q
          rw [own_co0 hab.2.1]
          show Own.Fin p e below (T142.setTop (mkF m 36 #[.val (.long q1), .second, .val (.long q2), .second, .val (.long q3), .second, .val (.int p4), .val (.long bb), .second, .val (.long cc), .second, .unset, .unset, .unset, .unset, .unset, .unset, .unset] [(.int (0 : Int32))])) _
          refine Own.go (fun t k => XS.istore X142.here hx rfl (hb hby at_36) rfl (l' := #[.val (.long q1), .second, .val (.long q2), .second, .val (.long q3), .second, .val (.int p4), .val (.long bb), .second, .val (.long cc), .second, .val (.int (0 : Int32)), .unset, .unset, .unset, .unset, .unset, .unset]) rfl k) ?_
          show Own.Fin p e below (T142.setTop (mkF m 38 #[.val (.long q1), .second, .val (.long q2), .second, .val (.long q3), .second, .val (.int p4), .val (.long bb), .second, .val (.long cc), .second, .val (.int (0 : Int32)), .unset, .unset, .unset, .unset, .unset, .unset] [])) _
          refine Own.go (fun t k => XS.lload X142.here hx rfl (hb hby at_38) rfl k) ?_
          show Own.Fin p e below (T142.setTop (mkF m 40 #[.val (.long q1), .second, .val (.long q2), .second, .val (.long q3), .second, .val (.int p4), .val (.long bb), .second, .val (.long cc), .second, .val (.int (0 : Int32)), .unset, .unset, .unset, .unset, .unset, .unset] [(.long bb)])) _
          refine Own.go (fun t k => XS.lloadN X142.here hx rfl (hb hby at_40) rfl k) ?_
          show Own.Fin p e below (T142.setTop (mkF m 41 #[.val (.long q1), .second, .val (.long q2), .second, .val (.long q3), .second, .val (.int p4), .val (.long bb), .second, .val (.long cc), .second, .val (.int (0 : Int32)), .unset, .unset, .unset, .unset, .unset, .unset] [(.long q1), (.long bb)])) _
          refine Own.cS X142 hx hZ hown (hw _ (List.mem_of_getElem? (i := 0) rfl)) (hw _ (List.mem_of_getElem? (i := 1) rfl)) (hw _ (List.mem_of_getElem? (i := 2) rfl)) (hw _ (List.mem_of_getElem? (i := 3) rfl)) (by decide) (rm1 l Z a0 hw [] bb q1 h0 n0 Z0 ) (by decide) (W := 0) (by decide) (argsL := [(.long bb), (.long q1)]) (rest := []) (by rw [hml]; rfl) (lenOf pd_0 rfl) rfl (Nat.le_of_eq rfl) (hb hby at_41) e142 (by decide) (by decide) ?_
          intro T143 L143 v143 X143 hQ143
          obtain ⟨rfl, N143q, e143⟩ := hQ143
          have N143 := Fr.app N142 N143q
          rw [own_co1 hab.1]
          show Own.Fin p e below (T143.setTop (mkF m 44 #[.val (.long q1), .second, .val (.long q2), .second, .val (.long q3), .second, .val (.int p4), .val (.long bb), .second, .val (.long cc), .second, .val (.int (0 : Int32)), .unset, .unset, .unset, .unset, .unset, .unset] [(.int (1 : Int32))])) _
          refine Own.go (fun t k => XS.istore X143.here hx rfl (hb hby at_44) rfl (l' := #[.val (.long q1), .second, .val (.long q2), .second, .val (.long q3), .second, .val (.int p4), .val (.long bb), .second, .val (.long cc), .second, .val (.int (0 : Int32)), .val (.int (1 : Int32)), .unset, .unset, .unset, .unset, .unset]) rfl k) ?_
          show Own.Fin p e below (T143.setTop (mkF m 46 #[.val (.long q1), .second, .val (.long q2), .second, .val (.long q3), .second, .val (.int p4), .val (.long bb), .second, .val (.long cc), .second, .val (.int (0 : Int32)), .val (.int (1 : Int32)), .unset, .unset, .unset, .unset, .unset] [])) _
          refine Own.go (fun t k => XS.lload X143.here hx rfl (hb hby at_46) rfl k) ?_
          show Own.Fin p e below (T143.setTop (mkF m 48 #[.val (.long q1), .second, .val (.long q2), .second, .val (.long q3), .second, .val (.int p4), .val (.long bb), .second, .val (.long cc), .second, .val (.int (0 : Int32)), .val (.int (1 : Int32)), .unset, .unset, .unset, .unset, .unset] [(.long bb)])) _
          refine Own.go (fun t k => XS.lload X143.here hx rfl (hb hby at_48) rfl k) ?_
          show Own.Fin p e below (T143.setTop (mkF m 50 #[.val (.long q1), .second, .val (.long q2), .second, .val (.long q3), .second, .val (.int p4), .val (.long bb), .second, .val (.long cc), .second, .val (.int (0 : Int32)), .val (.int (1 : Int32)), .unset, .unset, .unset, .unset, .unset] [(.long cc), (.long bb)])) _
          refine Own.cS X143 hx hZ hown (hw _ (List.mem_of_getElem? (i := 0) rfl)) (hw _ (List.mem_of_getElem? (i := 1) rfl)) (hw _ (List.mem_of_getElem? (i := 2) rfl)) (hw _ (List.mem_of_getElem? (i := 3) rfl)) (by decide) (rm1 l Z a0 hw [] bb cc h0 n0 Z0 ) (by decide) (W := 0) (by decide) (argsL := [(.long bb), (.long cc)]) (rest := []) (by rw [hml]; rfl) (lenOf pd_0 rfl) rfl (Nat.le_of_eq rfl) (hb hby at_50) e143 (by decide) (by decide) ?_
          intro T144 L144 v144 X144 hQ144
          obtain ⟨rfl, N144q, e144⟩ := hQ144
          have N144 := Fr.app N143 N144q
          rw [own_co0 hbc]
          show Own.Fin p e below (T144.setTop (mkF m 53 #[.val (.long q1), .second, .val (.long q2), .second, .val (.long q3), .second, .val (.int p4), .val (.long bb), .second, .val (.long cc), .second, .val (.int (0 : Int32)), .val (.int (1 : Int32)), .unset, .unset, .unset, .unset, .unset] [(.int (0 : Int32))])) _
          refine Own.go (fun t k => XS.istore X144.here hx rfl (hb hby at_53) rfl (l' := #[.val (.long q1), .second, .val (.long q2), .second, .val (.long q3), .second, .val (.int p4), .val (.long bb), .second, .val (.long cc), .second, .val (.int (0 : Int32)), .val (.int (1 : Int32)), .val (.int (0 : Int32)), .unset, .unset, .unset, .unset]) rfl k) ?_
          show Own.Fin p e below (T144.setTop (mkF m 55 #[.val (.long q1), .second, .val (.long q2), .second, .val (.long q3), .second, .val (.int p4), .val (.long bb), .second, .val (.long cc), .second, .val (.int (0 : Int32)), .val (.int (1 : Int32)), .val (.int (0 : Int32)), .unset, .unset, .unset, .unset] [])) _
          refine Own.go (fun t k => XS.lloadN X144.here hx rfl (hb hby at_55) rfl k) ?_
          show Own.Fin p e below (T144.setTop (mkF m 56 #[.val (.long q1), .second, .val (.long q2), .second, .val (.long q3), .second, .val (.int p4), .val (.long bb), .second, .val (.long cc), .second, .val (.int (0 : Int32)), .val (.int (1 : Int32)), .val (.int (0 : Int32)), .unset, .unset, .unset, .unset] [(.long q1)])) _
          refine Own.go (fun t k => XS.lload X144.here hx rfl (hb hby at_56) rfl k) ?_
          show Own.Fin p e below (T144.setTop (mkF m 58 #[.val (.long q1), .second, .val (.long q2), .second, .val (.long q3), .second, .val (.int p4), .val (.long bb), .second, .val (.long cc), .second, .val (.int (0 : Int32)), .val (.int (1 : Int32)), .val (.int (0 : Int32)), .unset, .unset, .unset, .unset] [(.long cc), (.long q1)])) _
          refine Own.cS X144 hx hZ hown (hw _ (List.mem_of_getElem? (i := 0) rfl)) (hw _ (List.mem_of_getElem? (i := 1) rfl)) (hw _ (List.mem_of_getElem? (i := 2) rfl)) (hw _ (List.mem_of_getElem? (i := 3) rfl)) (by decide) (rm1 l Z a0 hw [] q1 cc h0 n0 Z0 ) (by decide) (W := 0) (by decide) (argsL := [(.long q1), (.long cc)]) (rest := []) (by rw [hml]; rfl) (lenOf pd_0 rfl) rfl (Nat.le_of_eq rfl) (hb hby at_58) e144 (by decide) (by decide) ?_
          intro T145 L145 v145 X145 hQ145
          obtain ⟨rfl, N145q, e145⟩ := hQ145
          have N145 := Fr.app N144 N145q
          rw [own_co0 hac]
          show Own.Fin p e below (T145.setTop (mkF m 61 #[.val (.long q1), .second, .val (.long q2), .second, .val (.long q3), .second, .val (.int p4), .val (.long bb), .second, .val (.long cc), .second, .val (.int (0 : Int32)), .val (.int (1 : Int32)), .val (.int (0 : Int32)), .unset, .unset, .unset, .unset] [(.int (0 : Int32))])) _
          refine Own.go (fun t k => XS.istore X145.here hx rfl (hb hby at_61) rfl (l' := #[.val (.long q1), .second, .val (.long q2), .second, .val (.long q3), .second, .val (.int p4), .val (.long bb), .second, .val (.long cc), .second, .val (.int (0 : Int32)), .val (.int (1 : Int32)), .val (.int (0 : Int32)), .val (.int (0 : Int32)), .unset, .unset, .unset]) rfl k) ?_
          show Own.Fin p e below (T145.setTop (mkF m 63 #[.val (.long q1), .second, .val (.long q2), .second, .val (.long q3), .second, .val (.int p4), .val (.long bb), .second, .val (.long cc), .second, .val (.int (0 : Int32)), .val (.int (1 : Int32)), .val (.int (0 : Int32)), .val (.int (0 : Int32)), .unset, .unset, .unset] [])) _
          refine Own.go (fun t k => XS.lloadN X145.here hx rfl (hb hby at_63) rfl k) ?_
          show Own.Fin p e below (T145.setTop (mkF m 64 #[.val (.long q1), .second, .val (.long q2), .second, .val (.long q3), .second, .val (.int p4), .val (.long bb), .second, .val (.long cc), .second, .val (.int (0 : Int32)), .val (.int (1 : Int32)), .val (.int (0 : Int32)), .val (.int (0 : Int32)), .unset, .unset, .unset] [(.long q1)])) _
          refine Own.go (fun t k => XS.lload X145.here hx rfl (hb hby at_64) rfl k) ?_
          show Own.Fin p e below (T145.setTop (mkF m 66 #[.val (.long q1), .second, .val (.long q2), .second, .val (.long q3), .second, .val (.int p4), .val (.long bb), .second, .val (.long cc), .second, .val (.int (0 : Int32)), .val (.int (1 : Int32)), .val (.int (0 : Int32)), .val (.int (0 : Int32)), .unset, .unset, .unset] [(.long bb), (.long q1)])) _
          refine Own.cS X145 hx hZ hown (hw _ (List.mem_of_getElem? (i := 4) rfl)) (hw _ (List.mem_of_getElem? (i := 5) rfl)) (hw _ (List.mem_of_getElem? (i := 6) rfl)) (hw _ (List.mem_of_getElem? (i := 7) rfl)) (by decide) (rm2 l Z a0 hw [] q1 bb h0 n0 Z0 ) (by decide) (W := 0) (by decide) (argsL := [(.long q1), (.long bb)]) (rest := []) (by rw [hml]; rfl) (lenOf pd_1 rfl) rfl (Nat.le_of_eq rfl) (hb hby at_66) e145 (by decide) (by decide) ?_
          intro T146 L146 v146 X146 hQ146
          obtain ⟨rfl, N146q, e146⟩ := hQ146
          have N146 := Fr.app N145 N146q
          rw [own_mx1 hab.1]
          show Own.Fin p e below (T146.setTop (mkF m 69 #[.val (.long q1), .second, .val (.long q2), .second, .val (.long q3), .second, .val (.int p4), .val (.long bb), .second, .val (.long cc), .second, .val (.int (0 : Int32)), .val (.int (1 : Int32)), .val (.int (0 : Int32)), .val (.int (0 : Int32)), .unset, .unset, .unset] [(.long bb)])) _
          refine Own.go (fun t k => XS.lloadN X146.here hx rfl (hb hby at_69) rfl k) ?_
          show Own.Fin p e below (T146.setTop (mkF m 70 #[.val (.long q1), .second, .val (.long q2), .second, .val (.long q3), .second, .val (.int p4), .val (.long bb), .second, .val (.long cc), .second, .val (.int (0 : Int32)), .val (.int (1 : Int32)), .val (.int (0 : Int32)), .val (.int (0 : Int32)), .unset, .unset, .unset] [(.long q1), (.long bb)])) _
          refine Own.go (fun t k => XS.lcmp X146.here hx rfl (hb hby at_70) rfl k) ?_
          show Own.Fin p e below (T146.setTop (mkF m 71 #[.val (.long q1), .second, .val (.long q2), .second, .val (.long q3), .second, .val (.int p4), .val (.long bb), .second, .val (.long cc), .second, .val (.int (0 : Int32)), .val (.int (1 : Int32)), .val (.int (0 : Int32)), .val (.int (0 : Int32)), .unset, .unset, .unset] [(.int (lcmpW bb q1))])) _
          have hc71_146 : ¬ ((lcmpW bb q1) = (0 : Int32)) := fun q => (Ne.symm hab.2.2) ((lw_eq _ _).mp q)
          refine Own.go (fun t k => XS.ifYes X146.here hx rfl (pc0 := 71) (pc' := 85) rfl (hb hby at_71) rfl ((if0 _ _).trans (feq hc71_146).2) (by decide) (by decide) k) ?_
          show Own.Fin p e below (T146.setTop (mkF m 85 #[.val (.long q1), .second, .val (.long q2), .second, .val (.long q3), .second, .val (.int p4), .val (.long bb), .second, .val (.long cc), .second, .val (.int (0 : Int32)), .val (.int (1 : Int32)), .val (.int (0 : Int32)), .val (.int (0 : Int32)), .unset, .unset, .unset] [])) _
          refine Own.go (fun t k => XS.iconst X146.here hx rfl (hb hby at_85) k) ?_
          show Own.Fin p e below (T146.setTop (mkF m 86 #[.val (.long q1), .second, .val (.long q2), .second, .val (.long q3), .second, .val (.int p4), .val (.long bb), .second, .val (.long cc), .second, .val (.int (0 : Int32)), .val (.int (1 : Int32)), .val (.int (0 : Int32)), .val (.int (0 : Int32)), .unset, .unset, .unset] [(.int (0 : Int32))])) _
          refine Own.go (fun t k => XS.istore X146.here hx rfl (hb hby at_86) rfl (l' := #[.val (.long q1), .second, .val (.long q2), .second, .val (.long q3), .second, .val (.int p4), .val (.long bb), .second, .val (.long cc), .second, .val (.int (0 : Int32)), .val (.int (1 : Int32)), .val (.int (0 : Int32)), .val (.int (0 : Int32)), .val (.int (0 : Int32)), .unset, .unset]) rfl k) ?_
          show Own.Fin p e below (T146.setTop (mkF m 88 #[.val (.long q1), .second, .val (.long q2), .second, .val (.long q3), .second, .val (.int p4), .val (.long bb), .second, .val (.long cc), .second, .val (.int (0 : Int32)), .val (.int (1 : Int32)), .val (.int (0 : Int32)), .val (.int (0 : Int32)), .val (.int (0 : Int32)), .unset, .unset] [])) _
          refine Own.go (fun t k => XS.iload X146.here hx rfl (hb hby at_88) rfl k) ?_
          show Own.Fin p e below (T146.setTop (mkF m 90 #[.val (.long q1), .second, .val (.long q2), .second, .val (.long q3), .second, .val (.int p4), .val (.long bb), .second, .val (.long cc), .second, .val (.int (0 : Int32)), .val (.int (1 : Int32)), .val (.int (0 : Int32)), .val (.int (0 : Int32)), .val (.int (0 : Int32)), .unset, .unset] [(.int (0 : Int32))])) _
          have hc90_147 : (0 : Int32) = (0 : Int32) := by decide
          refine Own.go (fun t k => XS.ifYes X146.here hx rfl (pc0 := 90) (pc' := 97) rfl (hb hby at_90) rfl ((if0 _ _).trans (teq hc90_147).1) (by decide) (by decide) k) ?_
          show Own.Fin p e below (T146.setTop (mkF m 97 #[.val (.long q1), .second, .val (.long q2), .second, .val (.long q3), .second, .val (.int p4), .val (.long bb), .second, .val (.long cc), .second, .val (.int (0 : Int32)), .val (.int (1 : Int32)), .val (.int (0 : Int32)), .val (.int (0 : Int32)), .val (.int (0 : Int32)), .unset, .unset] [])) _
          refine Own.go (fun t k => XS.iconst X146.here hx rfl (hb hby at_97) k) ?_
          show Own.Fin p e below (T146.setTop (mkF m 98 #[.val (.long q1), .second, .val (.long q2), .second, .val (.long q3), .second, .val (.int p4), .val (.long bb), .second, .val (.long cc), .second, .val (.int (0 : Int32)), .val (.int (1 : Int32)), .val (.int (0 : Int32)), .val (.int (0 : Int32)), .val (.int (0 : Int32)), .unset, .unset] [(.int (0 : Int32))])) _
          refine Own.go (fun t k => XS.iload X146.here hx rfl (hb hby at_98) rfl k) ?_
          show Own.Fin p e below (T146.setTop (mkF m 100 #[.val (.long q1), .second, .val (.long q2), .second, .val (.long q3), .second, .val (.int p4), .val (.long bb), .second, .val (.long cc), .second, .val (.int (0 : Int32)), .val (.int (1 : Int32)), .val (.int (0 : Int32)), .val (.int (0 : Int32)), .val (.int (0 : Int32)), .unset, .unset] [(.int (1 : Int32)), (.int (0 : Int32))])) _
          have hc100_148 : ¬ ((1 : Int32) = (0 : Int32)) := by decide
          refine Own.go (fun t k => XS.ifNo X146.here hx rfl (hb hby at_100) rfl ((if0 _ _).trans (feq hc100_148).1) k) ?_
          show Own.Fin p e below (T146.setTop (mkF m 103 #[.val (.long q1), .second, .val (.long q2), .second, .val (.long q3), .second, .val (.int p4), .val (.long bb), .second, .val (.long cc), .second, .val (.int (0 : Int32)), .val (.int (1 : Int32)), .val (.int (0 : Int32)), .val (.int (0 : Int32)), .val (.int (0 : Int32)), .unset, .unset] [(.int (0 : Int32))])) _
          refine Own.go (fun t k => XS.iconst X146.here hx rfl (hb hby at_103) k) ?_
          show Own.Fin p e below (T146.setTop (mkF m 104 #[.val (.long q1), .second, .val (.long q2), .second, .val (.long q3), .second, .val (.int p4), .val (.long bb), .second, .val (.long cc), .second, .val (.int (0 : Int32)), .val (.int (1 : Int32)), .val (.int (0 : Int32)), .val (.int (0 : Int32)), .val (.int (0 : Int32)), .unset, .unset] [(.int (1 : Int32)), (.int (0 : Int32))])) _
          refine Own.go (fun t k => XS.goto X146.here hx rfl (pc0 := 104) (pc' := 108) rfl (hb hby at_104) (by decide) (by decide) k) ?_
          show Own.Fin p e below (T146.setTop (mkF m 108 #[.val (.long q1), .second, .val (.long q2), .second, .val (.long q3), .second, .val (.int p4), .val (.long bb), .second, .val (.long cc), .second, .val (.int (0 : Int32)), .val (.int (1 : Int32)), .val (.int (0 : Int32)), .val (.int (0 : Int32)), .val (.int (0 : Int32)), .unset, .unset] [(.int (1 : Int32)), (.int (0 : Int32))])) _
          refine Own.go (fun t k => XS.iadd X146.here hx rfl (hb hby at_108) rfl k) ?_
          show Own.Fin p e below (T146.setTop (mkF m 109 #[.val (.long q1), .second, .val (.long q2), .second, .val (.long q3), .second, .val (.int p4), .val (.long bb), .second, .val (.long cc), .second, .val (.int (0 : Int32)), .val (.int (1 : Int32)), .val (.int (0 : Int32)), .val (.int (0 : Int32)), .val (.int (0 : Int32)), .unset, .unset] [(.int ((0 : Int32) + (1 : Int32)))])) _
          refine Own.go (fun t k => XS.lloadN X146.here hx rfl (hb hby at_109) rfl k) ?_
          show Own.Fin p e below (T146.setTop (mkF m 110 #[.val (.long q1), .second, .val (.long q2), .second, .val (.long q3), .second, .val (.int p4), .val (.long bb), .second, .val (.long cc), .second, .val (.int (0 : Int32)), .val (.int (1 : Int32)), .val (.int (0 : Int32)), .val (.int (0 : Int32)), .val (.int (0 : Int32)), .unset, .unset] [(.long q1), (.int ((0 : Int32) + (1 : Int32)))])) _
          refine Own.go (fun t k => XS.lload X146.here hx rfl (hb hby at_110) rfl k) ?_
          show Own.Fin p e below (T146.setTop (mkF m 112 #[.val (.long q1), .second, .val (.long q2), .second, .val (.long q3), .second, .val (.int p4), .val (.long bb), .second, .val (.long cc), .second, .val (.int (0 : Int32)), .val (.int (1 : Int32)), .val (.int (0 : Int32)), .val (.int (0 : Int32)), .val (.int (0 : Int32)), .unset, .unset] [(.long bb), (.long q1), (.int ((0 : Int32) + (1 : Int32)))])) _
          refine Own.go (fun t k => XS.lcmp X146.here hx rfl (hb hby at_112) rfl k) ?_
          show Own.Fin p e below (T146.setTop (mkF m 113 #[.val (.long q1), .second, .val (.long q2), .second, .val (.long q3), .second, .val (.int p4), .val (.long bb), .second, .val (.long cc), .second, .val (.int (0 : Int32)), .val (.int (1 : Int32)), .val (.int (0 : Int32)), .val (.int (0 : Int32)), .val (.int (0 : Int32)), .unset, .unset] [(.int (lcmpW q1 bb)), (.int ((0 : Int32) + (1 : Int32)))])) _
          have hc113_149 : ¬ ((lcmpW q1 bb) = (0 : Int32)) := fun q => hab.2.2 ((lw_eq _ _).mp q)
          refine Own.go (fun t k => XS.ifYes X146.here hx rfl (pc0 := 113) (pc' := 120) rfl (hb hby at_113) rfl ((if0 _ _).trans (feq hc113_149).2) (by decide) (by decide) k) ?_
          show Own.Fin p e below (T146.setTop (mkF m 120 #[.val (.long q1), .second, .val (.long q2), .second, .val (.long q3), .second, .val (.int p4), .val (.long bb), .second, .val (.long cc), .second, .val (.int (0 : Int32)), .val (.int (1 : Int32)), .val (.int (0 : Int32)), .val (.int (0 : Int32)), .val (.int (0 : Int32)), .unset, .unset] [(.int ((0 : Int32) + (1 : Int32)))])) _
          refine Own.go (fun t k => XS.iconst X146.here hx rfl (hb hby at_120) k) ?_
          show Own.Fin p e below (T146.setTop (mkF m 121 #[.val (.long q1), .second, .val (.long q2), .second, .val (.long q3), .second, .val (.int p4), .val (.long bb), .second, .val (.long cc), .second, .val (.int (0 : Int32)), .val (.int (1 : Int32)), .val (.int (0 : Int32)), .val (.int (0 : Int32)), .val (.int (0 : Int32)), .unset, .unset] [(.int (0 : Int32)), (.int ((0 : Int32) + (1 : Int32)))])) _
          refine Own.go (fun t k => XS.iadd X146.here hx rfl (hb hby at_121) rfl k) ?_
          show Own.Fin p e below (T146.setTop (mkF m 122 #[.val (.long q1), .second, .val (.long q2), .second, .val (.long q3), .second, .val (.int p4), .val (.long bb), .second, .val (.long cc), .second, .val (.int (0 : Int32)), .val (.int (1 : Int32)), .val (.int (0 : Int32)), .val (.int (0 : Int32)), .val (.int (0 : Int32)), .unset, .unset] [(.int (((0 : Int32) + (1 : Int32)) + (0 : Int32)))])) _
          refine Own.go (fun t k => XS.istore X146.here hx rfl (hb hby at_122) rfl (l' := #[.val (.long q1), .second, .val (.long q2), .second, .val (.long q3), .second, .val (.int p4), .val (.long bb), .second, .val (.long cc), .second, .val (.int (0 : Int32)), .val (.int (1 : Int32)), .val (.int (0 : Int32)), .val (.int (0 : Int32)), .val (.int (0 : Int32)), .val (.int (((0 : Int32) + (1 : Int32)) + (0 : Int32))), .unset]) rfl k) ?_
          show Own.Fin p e below (T146.setTop (mkF m 124 #[.val (.long q1), .second, .val (.long q2), .second, .val (.long q3), .second, .val (.int p4), .val (.long bb), .second, .val (.long cc), .second, .val (.int (0 : Int32)), .val (.int (1 : Int32)), .val (.int (0 : Int32)), .val (.int (0 : Int32)), .val (.int (0 : Int32)), .val (.int (((0 : Int32) + (1 : Int32)) + (0 : Int32))), .unset] [])) _
          refine Own.go (fun t k => XS.iload X146.here hx rfl (hb hby at_124) rfl k) ?_
          show Own.Fin p e below (T146.setTop (mkF m 126 #[.val (.long q1), .second, .val (.long q2), .second, .val (.long q3), .second, .val (.int p4), .val (.long bb), .second, .val (.long cc), .second, .val (.int (0 : Int32)), .val (.int (1 : Int32)), .val (.int (0 : Int32)), .val (.int (0 : Int32)), .val (.int (0 : Int32)), .val (.int (((0 : Int32) + (1 : Int32)) + (0 : Int32))), .unset] [(.int (0 : Int32))])) _
          have hc126_150 : (0 : Int32) = (0 : Int32) := by decide
          refine Own.go (fun t k => XS.ifYes X146.here hx rfl (pc0 := 126) (pc' := 139) rfl (hb hby at_126) rfl ((if0 _ _).trans (teq hc126_150).1) (by decide) (by decide) k) ?_
          show Own.Fin p e below (T146.setTop (mkF m 139 #[.val (.long q1), .second, .val (.long q2), .second, .val (.long q3), .second, .val (.int p4), .val (.long bb), .second, .val (.long cc), .second, .val (.int (0 : Int32)), .val (.int (1 : Int32)), .val (.int (0 : Int32)), .val (.int (0 : Int32)), .val (.int (0 : Int32)), .val (.int (((0 : Int32) + (1 : Int32)) + (0 : Int32))), .unset] [])) _
          refine Own.go (fun t k => XS.iconst X146.here hx rfl (hb hby at_139) k) ?_
          show Own.Fin p e below (T146.setTop (mkF m 140 #[.val (.long q1), .second, .val (.long q2), .second, .val (.long q3), .second, .val (.int p4), .val (.long bb), .second, .val (.long cc), .second, .val (.int (0 : Int32)), .val (.int (1 : Int32)), .val (.int (0 : Int32)), .val (.int (0 : Int32)), .val (.int (0 : Int32)), .val (.int (((0 : Int32) + (1 : Int32)) + (0 : Int32))), .unset] [(.int (1 : Int32))])) _
          refine Own.go (fun t k => XS.goto X146.here hx rfl (pc0 := 140) (pc' := 144) rfl (hb hby at_140) (by decide) (by decide) k) ?_
          show Own.Fin p e below (T146.setTop (mkF m 144 #[.val (.long q1), .second, .val (.long q2), .second, .val (.long q3), .second, .val (.int p4), .val (.long bb), .second, .val (.long cc), .second, .val (.int (0 : Int32)), .val (.int (1 : Int32)), .val (.int (0 : Int32)), .val (.int (0 : Int32)), .val (.int (0 : Int32)), .val (.int (((0 : Int32) + (1 : Int32)) + (0 : Int32))), .unset] [(.int (1 : Int32))])) _
          refine Own.go (fun t k => XS.istore X146.here hx rfl (hb hby at_144) rfl (l' := #[.val (.long q1), .second, .val (.long q2), .second, .val (.long q3), .second, .val (.int p4), .val (.long bb), .second, .val (.long cc), .second, .val (.int (0 : Int32)), .val (.int (1 : Int32)), .val (.int (0 : Int32)), .val (.int (0 : Int32)), .val (.int (0 : Int32)), .val (.int (((0 : Int32) + (1 : Int32)) + (0 : Int32))), .val (.int (1 : Int32))]) rfl k) ?_
          show Own.Fin p e below (T146.setTop (mkF m 146 #[.val (.long q1), .second, .val (.long q2), .second, .val (.long q3), .second, .val (.int p4), .val (.long bb), .second, .val (.long cc), .second, .val (.int (0 : Int32)), .val (.int (1 : Int32)), .val (.int (0 : Int32)), .val (.int (0 : Int32)), .val (.int (0 : Int32)), .val (.int (((0 : Int32) + (1 : Int32)) + (0 : Int32))), .val (.int (1 : Int32))] [])) _
          refine Own.go (fun t k => XS.iload X146.here hx rfl (hb hby at_146) rfl k) ?_
          show Own.Fin p e below (T146.setTop (mkF m 148 #[.val (.long q1), .second, .val (.long q2), .second, .val (.long q3), .second, .val (.int p4), .val (.long bb), .second, .val (.long cc), .second, .val (.int (0 : Int32)), .val (.int (1 : Int32)), .val (.int (0 : Int32)), .val (.int (0 : Int32)), .val (.int (0 : Int32)), .val (.int (((0 : Int32) + (1 : Int32)) + (0 : Int32))), .val (.int (1 : Int32))] [(.int (0 : Int32))])) _
          refine Own.go (fun t k => XS.iload X146.here hx rfl (hb hby at_148) rfl k) ?_
          show Own.Fin p e below (T146.setTop (mkF m 150 #[.val (.long q1), .second, .val (.long q2), .second, .val (.long q3), .second, .val (.int p4), .val (.long bb), .second, .val (.long cc), .second, .val (.int (0 : Int32)), .val (.int (1 : Int32)), .val (.int (0 : Int32)), .val (.int (0 : Int32)), .val (.int (0 : Int32)), .val (.int (((0 : Int32) + (1 : Int32)) + (0 : Int32))), .val (.int (1 : Int32))] [(.int (0 : Int32)), (.int (0 : Int32))])) _
          have hc150_151 : (0 : Int32) = (0 : Int32) := by decide
          refine Own.go (fun t k => XS.icmpNo X146.here hx rfl (hb hby at_150) rfl (teq hc150_151).2 k) ?_
          show Own.Fin p e below (T146.setTop (mkF m 153 #[.val (.long q1), .second, .val (.long q2), .second, .val (.long q3), .second, .val (.int p4), .val (.long bb), .second, .val (.long cc), .second, .val (.int (0 : Int32)), .val (.int (1 : Int32)), .val (.int (0 : Int32)), .val (.int (0 : Int32)), .val (.int (0 : Int32)), .val (.int (((0 : Int32) + (1 : Int32)) + (0 : Int32))), .val (.int (1 : Int32))] [])) _
          refine Own.go (fun t k => XS.iload X146.here hx rfl (hb hby at_153) rfl k) ?_
          show Own.Fin p e below (T146.setTop (mkF m 155 #[.val (.long q1), .second, .val (.long q2), .second, .val (.long q3), .second, .val (.int p4), .val (.long bb), .second, .val (.long cc), .second, .val (.int (0 : Int32)), .val (.int (1 : Int32)), .val (.int (0 : Int32)), .val (.int (0 : Int32)), .val (.int (0 : Int32)), .val (.int (((0 : Int32) + (1 : Int32)) + (0 : Int32))), .val (.int (1 : Int32))] [(.int (((0 : Int32) + (1 : Int32)) + (0 : Int32)))])) _
          refine Own.go (fun t k => XS.iconst X146.here hx rfl (hb hby at_155) k) ?_
          show Own.Fin p e below (T146.setTop (mkF m 156 #[.val (.long q1), .second, .val (.long q2), .second, .val (.long q3), .second, .val (.int p4), .val (.long bb), .second, .val (.long cc), .second, .val (.int (0 : Int32)), .val (.int (1 : Int32)), .val (.int (0 : Int32)), .val (.int (0 : Int32)), .val (.int (0 : Int32)), .val (.int (((0 : Int32) + (1 : Int32)) + (0 : Int32))), .val (.int (1 : Int32))] [(.int (1 : Int32)), (.int (((0 : Int32) + (1 : Int32)) + (0 : Int32)))])) _
          have hc156_152 : (((0 : Int32) + (1 : Int32)) + (0 : Int32)) = (1 : Int32) := by decide
          refine Own.go (fun t k => XS.icmpNo X146.here hx rfl (hb hby at_156) rfl (teq hc156_152).2 k) ?_
          show Own.Fin p e below (T146.setTop (mkF m 159 #[.val (.long q1), .second, .val (.long q2), .second, .val (.long q3), .second, .val (.int p4), .val (.long bb), .second, .val (.long cc), .second, .val (.int (0 : Int32)), .val (.int (1 : Int32)), .val (.int (0 : Int32)), .val (.int (0 : Int32)), .val (.int (0 : Int32)), .val (.int (((0 : Int32) + (1 : Int32)) + (0 : Int32))), .val (.int (1 : Int32))] [])) _
          refine Own.go (fun t k => XS.iload X146.here hx rfl (hb hby at_159) rfl k) ?_
          show Own.Fin p e below (T146.setTop (mkF m 161 #[.val (.long q1), .second, .val (.long q2), .second, .val (.long q3), .second, .val (.int p4), .val (.long bb), .second, .val (.long cc), .second, .val (.int (0 : Int32)), .val (.int (1 : Int32)), .val (.int (0 : Int32)), .val (.int (0 : Int32)), .val (.int (0 : Int32)), .val (.int (((0 : Int32) + (1 : Int32)) + (0 : Int32))), .val (.int (1 : Int32))] [(.int (1 : Int32))])) _
          have hc161_153 : ¬ ((1 : Int32) = (0 : Int32)) := by decide
          refine Own.go (fun t k => XS.ifNo X146.here hx rfl (hb hby at_161) rfl ((if0 _ _).trans (feq hc161_153).1) k) ?_
          show Own.Fin p e below (T146.setTop (mkF m 164 #[.val (.long q1), .second, .val (.long q2), .second, .val (.long q3), .second, .val (.int p4), .val (.long bb), .second, .val (.long cc), .second, .val (.int (0 : Int32)), .val (.int (1 : Int32)), .val (.int (0 : Int32)), .val (.int (0 : Int32)), .val (.int (0 : Int32)), .val (.int (((0 : Int32) + (1 : Int32)) + (0 : Int32))), .val (.int (1 : Int32))] [])) _
          refine Own.go (fun t k => XS.iconst X146.here hx rfl (hb hby at_164) k) ?_
          show Own.Fin p e below (T146.setTop (mkF m 165 #[.val (.long q1), .second, .val (.long q2), .second, .val (.long q3), .second, .val (.int p4), .val (.long bb), .second, .val (.long cc), .second, .val (.int (0 : Int32)), .val (.int (1 : Int32)), .val (.int (0 : Int32)), .val (.int (0 : Int32)), .val (.int (0 : Int32)), .val (.int (((0 : Int32) + (1 : Int32)) + (0 : Int32))), .val (.int (1 : Int32))] [(.int (1 : Int32))])) _
          refine Own.go (fun t k => XS.goto X146.here hx rfl (pc0 := 165) (pc' := 169) rfl (hb hby at_165) (by decide) (by decide) k) ?_
          show Own.Fin p e below (T146.setTop (mkF m 169 #[.val (.long q1), .second, .val (.long q2), .second, .val (.long q3), .second, .val (.int p4), .val (.long bb), .second, .val (.long cc), .second, .val (.int (0 : Int32)), .val (.int (1 : Int32)), .val (.int (0 : Int32)), .val (.int (0 : Int32)), .val (.int (0 : Int32)), .val (.int (((0 : Int32) + (1 : Int32)) + (0 : Int32))), .val (.int (1 : Int32))] [(.int (1 : Int32))])) _
          refine Own.retN X146 hx Bd.notSynchronized (t := .boolean) Bd.returns (by simp) (hb hby at_169) (by decide) (by decide) ?_
          exact ⟨rfl, N146⟩
  show Own.Fin p e below (s₁.setTop (mkF m 0 #[.val (.long q1), .second, .val (.long q2), .second, .val (.long q3), .second, .val (.int p4), .unset, .unset, .unset, .unset, .unset, .unset, .unset, .unset, .unset, .unset, .unset] [])) _
  refine Own.go (fun t k => XS.iload X0.here hx rfl (hb hby at_0) rfl k) ?_
  show Own.Fin p e below (s₁.setTop (mkF m 2 #[.val (.long q1), .second, .val (.long q2), .second, .val (.long q3), .second, .val (.int p4), .unset, .unset, .unset, .unset, .unset, .unset, .unset, .unset, .unset, .unset, .unset] [(.int p4)])) _
  refine Own.go (fun t k => XS.iconst X0.here hx rfl (hb hby at_2) k) ?_
  show Own.Fin p e below (s₁.setTop (mkF m 3 #[.val (.long q1), .second, .val (.long q2), .second, .val (.long q3), .second, .val (.int p4), .unset, .unset, .unset, .unset, .unset, .unset, .unset, .unset, .unset, .unset, .unset] [(.int (1 : Int32)), (.int p4)])) _
  refine Own.go (fun t k => XS.iand X0.here hx rfl (hb hby at_3) rfl k) ?_
  show Own.Fin p e below (s₁.setTop (mkF m 4 #[.val (.long q1), .second, .val (.long q2), .second, .val (.long q3), .second, .val (.int p4), .unset, .unset, .unset, .unset, .unset, .unset, .unset, .unset, .unset, .unset, .unset] [(.int (p4 &&& (1 : Int32)))])) _
  by_cases hc4_154 : (p4 &&& (1 : Int32)) = (0 : Int32)
  · skip
    refine Own.go (fun t k => XS.ifYes X0.here hx rfl (pc0 := 4) (pc' := 11) rfl (hb hby at_4) rfl ((if0 _ _).trans (teq hc4_154).1) (by decide) (by decide) k) ?_
    show Own.Fin p e below (s₁.setTop (mkF m 11 #[.val (.long q1), .second, .val (.long q2), .second, .val (.long q3), .second, .val (.int p4), .unset, .unset, .unset, .unset, .unset, .unset, .unset, .unset, .unset, .unset, .unset] [])) _
    refine Own.go (fun t k => XS.lloadN X0.here hx rfl (hb hby at_11) rfl k) ?_
    show Own.Fin p e below (s₁.setTop (mkF m 12 #[.val (.long q1), .second, .val (.long q2), .second, .val (.long q3), .second, .val (.int p4), .unset, .unset, .unset, .unset, .unset, .unset, .unset, .unset, .unset, .unset, .unset] [(.long q2)])) _
    refine Own.go (fun t k => XS.lstore X0.here hx rfl (hb hby at_12) rfl (l' := #[.val (.long q1), .second, .val (.long q2), .second, .val (.long q3), .second, .val (.int p4), .val (.long q2), .second, .unset, .unset, .unset, .unset, .unset, .unset, .unset, .unset, .unset]) rfl k) ?_
    show Own.Fin p e below (s₁.setTop (mkF m 14 #[.val (.long q1), .second, .val (.long q2), .second, .val (.long q3), .second, .val (.int p4), .val (.long q2), .second, .unset, .unset, .unset, .unset, .unset, .unset, .unset, .unset, .unset] [])) _
    refine Own.go (fun t k => XS.iload X0.here hx rfl (hb hby at_14) rfl k) ?_
    show Own.Fin p e below (s₁.setTop (mkF m 16 #[.val (.long q1), .second, .val (.long q2), .second, .val (.long q3), .second, .val (.int p4), .val (.long q2), .second, .unset, .unset, .unset, .unset, .unset, .unset, .unset, .unset, .unset] [(.int p4)])) _
    refine Own.go (fun t k => XS.iconst X0.here hx rfl (hb hby at_16) k) ?_
    show Own.Fin p e below (s₁.setTop (mkF m 17 #[.val (.long q1), .second, .val (.long q2), .second, .val (.long q3), .second, .val (.int p4), .val (.long q2), .second, .unset, .unset, .unset, .unset, .unset, .unset, .unset, .unset, .unset] [(.int (2 : Int32)), (.int p4)])) _
    refine Own.go (fun t k => XS.iand X0.here hx rfl (hb hby at_17) rfl k) ?_
    show Own.Fin p e below (s₁.setTop (mkF m 18 #[.val (.long q1), .second, .val (.long q2), .second, .val (.long q3), .second, .val (.int p4), .val (.long q2), .second, .unset, .unset, .unset, .unset, .unset, .unset, .unset, .unset, .unset] [(.int (p4 &&& (2 : Int32)))])) _
    by_cases hc18_155 : (p4 &&& (2 : Int32)) = (0 : Int32)
    · skip
      refine Own.go (fun t k => XS.ifYes X0.here hx rfl (pc0 := 18) (pc' := 26) rfl (hb hby at_18) rfl ((if0 _ _).trans (teq hc18_155).1) (by decide) (by decide) k) ?_
      show Own.Fin p e below (s₁.setTop (mkF m 26 #[.val (.long q1), .second, .val (.long q2), .second, .val (.long q3), .second, .val (.int p4), .val (.long q2), .second, .unset, .unset, .unset, .unset, .unset, .unset, .unset, .unset, .unset] [])) _
      refine Own.go (fun t k => XS.lload X0.here hx rfl (hb hby at_26) rfl k) ?_
      show Own.Fin p e below (s₁.setTop (mkF m 28 #[.val (.long q1), .second, .val (.long q2), .second, .val (.long q3), .second, .val (.int p4), .val (.long q2), .second, .unset, .unset, .unset, .unset, .unset, .unset, .unset, .unset, .unset] [(.long q3)])) _
      refine Own.go (fun t k => XS.lstore X0.here hx rfl (hb hby at_28) rfl (l' := #[.val (.long q1), .second, .val (.long q2), .second, .val (.long q3), .second, .val (.int p4), .val (.long q2), .second, .val (.long q3), .second, .unset, .unset, .unset, .unset, .unset, .unset, .unset]) rfl k) ?_
      show Own.Fin p e below (s₁.setTop (mkF m 30 #[.val (.long q1), .second, .val (.long q2), .second, .val (.long q3), .second, .val (.int p4), .val (.long q2), .second, .val (.long q3), .second, .unset, .unset, .unset, .unset, .unset, .unset, .unset] [])) _
      exact tail _ _
    · skip
      refine Own.go (fun t k => XS.ifNo X0.here hx rfl (hb hby at_18) rfl ((if0 _ _).trans (feq hc18_155).1) k) ?_
      show Own.Fin p e below (s₁.setTop (mkF m 21 #[.val (.long q1), .second, .val (.long q2), .second, .val (.long q3), .second, .val (.int p4), .val (.long q2), .second, .unset, .unset, .unset, .unset, .unset, .unset, .unset, .unset, .unset] [])) _
      refine Own.go (fun t k => XS.lload X0.here hx rfl (hb hby at_21) rfl k) ?_
      show Own.Fin p e below (s₁.setTop (mkF m 23 #[.val (.long q1), .second, .val (.long q2), .second, .val (.long q3), .second, .val (.int p4), .val (.long q2), .second, .unset, .unset, .unset, .unset, .unset, .unset, .unset, .unset, .unset] [(.long q2)])) _
      refine Own.go (fun t k => XS.goto X0.here hx rfl (pc0 := 23) (pc' := 28) rfl (hb hby at_23) (by decide) (by decide) k) ?_
      show Own.Fin p e below (s₁.setTop (mkF m 28 #[.val (.long q1), .second, .val (.long q2), .second, .val (.long q3), .second, .val (.int p4), .val (.long q2), .second, .unset, .unset, .unset, .unset, .unset, .unset, .unset, .unset, .unset] [(.long q2)])) _
      refine Own.go (fun t k => XS.lstore X0.here hx rfl (hb hby at_28) rfl (l' := #[.val (.long q1), .second, .val (.long q2), .second, .val (.long q3), .second, .val (.int p4), .val (.long q2), .second, .val (.long q2), .second, .unset, .unset, .unset, .unset, .unset, .unset, .unset]) rfl k) ?_
      show Own.Fin p e below (s₁.setTop (mkF m 30 #[.val (.long q1), .second, .val (.long q2), .second, .val (.long q3), .second, .val (.int p4), .val (.long q2), .second, .val (.long q2), .second, .unset, .unset, .unset, .unset, .unset, .unset, .unset] [])) _
      exact tail _ _
  · skip
    refine Own.go (fun t k => XS.ifNo X0.here hx rfl (hb hby at_4) rfl ((if0 _ _).trans (feq hc4_154).1) k) ?_
    show Own.Fin p e below (s₁.setTop (mkF m 7 #[.val (.long q1), .second, .val (.long q2), .second, .val (.long q3), .second, .val (.int p4), .unset, .unset, .unset, .unset, .unset, .unset, .unset, .unset, .unset, .unset, .unset] [])) _
    refine Own.go (fun t k => XS.lloadN X0.here hx rfl (hb hby at_7) rfl k) ?_
    show Own.Fin p e below (s₁.setTop (mkF m 8 #[.val (.long q1), .second, .val (.long q2), .second, .val (.long q3), .second, .val (.int p4), .unset, .unset, .unset, .unset, .unset, .unset, .unset, .unset, .unset, .unset, .unset] [(.long q1)])) _
    refine Own.go (fun t k => XS.goto X0.here hx rfl (pc0 := 8) (pc' := 12) rfl (hb hby at_8) (by decide) (by decide) k) ?_
    show Own.Fin p e below (s₁.setTop (mkF m 12 #[.val (.long q1), .second, .val (.long q2), .second, .val (.long q3), .second, .val (.int p4), .unset, .unset, .unset, .unset, .unset, .unset, .unset, .unset, .unset, .unset, .unset] [(.long q1)])) _
    refine Own.go (fun t k => XS.lstore X0.here hx rfl (hb hby at_12) rfl (l' := #[.val (.long q1), .second, .val (.long q2), .second, .val (.long q3), .second, .val (.int p4), .val (.long q1), .second, .unset, .unset, .unset, .unset, .unset, .unset, .unset, .unset, .unset]) rfl k) ?_
    show Own.Fin p e below (s₁.setTop (mkF m 14 #[.val (.long q1), .second, .val (.long q2), .second, .val (.long q3), .second, .val (.int p4), .val (.long q1), .second, .unset, .unset, .unset, .unset, .unset, .unset, .unset, .unset, .unset] [])) _
    refine Own.go (fun t k => XS.iload X0.here hx rfl (hb hby at_14) rfl k) ?_
    show Own.Fin p e below (s₁.setTop (mkF m 16 #[.val (.long q1), .second, .val (.long q2), .second, .val (.long q3), .second, .val (.int p4), .val (.long q1), .second, .unset, .unset, .unset, .unset, .unset, .unset, .unset, .unset, .unset] [(.int p4)])) _
    refine Own.go (fun t k => XS.iconst X0.here hx rfl (hb hby at_16) k) ?_
    show Own.Fin p e below (s₁.setTop (mkF m 17 #[.val (.long q1), .second, .val (.long q2), .second, .val (.long q3), .second, .val (.int p4), .val (.long q1), .second, .unset, .unset, .unset, .unset, .unset, .unset, .unset, .unset, .unset] [(.int (2 : Int32)), (.int p4)])) _
    refine Own.go (fun t k => XS.iand X0.here hx rfl (hb hby at_17) rfl k) ?_
    show Own.Fin p e below (s₁.setTop (mkF m 18 #[.val (.long q1), .second, .val (.long q2), .second, .val (.long q3), .second, .val (.int p4), .val (.long q1), .second, .unset, .unset, .unset, .unset, .unset, .unset, .unset, .unset, .unset] [(.int (p4 &&& (2 : Int32)))])) _
    by_cases hc18_156 : (p4 &&& (2 : Int32)) = (0 : Int32)
    · skip
      refine Own.go (fun t k => XS.ifYes X0.here hx rfl (pc0 := 18) (pc' := 26) rfl (hb hby at_18) rfl ((if0 _ _).trans (teq hc18_156).1) (by decide) (by decide) k) ?_
      show Own.Fin p e below (s₁.setTop (mkF m 26 #[.val (.long q1), .second, .val (.long q2), .second, .val (.long q3), .second, .val (.int p4), .val (.long q1), .second, .unset, .unset, .unset, .unset, .unset, .unset, .unset, .unset, .unset] [])) _
      refine Own.go (fun t k => XS.lload X0.here hx rfl (hb hby at_26) rfl k) ?_
      show Own.Fin p e below (s₁.setTop (mkF m 28 #[.val (.long q1), .second, .val (.long q2), .second, .val (.long q3), .second, .val (.int p4), .val (.long q1), .second, .unset, .unset, .unset, .unset, .unset, .unset, .unset, .unset, .unset] [(.long q3)])) _
      refine Own.go (fun t k => XS.lstore X0.here hx rfl (hb hby at_28) rfl (l' := #[.val (.long q1), .second, .val (.long q2), .second, .val (.long q3), .second, .val (.int p4), .val (.long q1), .second, .val (.long q3), .second, .unset, .unset, .unset, .unset, .unset, .unset, .unset]) rfl k) ?_
      show Own.Fin p e below (s₁.setTop (mkF m 30 #[.val (.long q1), .second, .val (.long q2), .second, .val (.long q3), .second, .val (.int p4), .val (.long q1), .second, .val (.long q3), .second, .unset, .unset, .unset, .unset, .unset, .unset, .unset] [])) _
      exact tail _ _
    · skip
      refine Own.go (fun t k => XS.ifNo X0.here hx rfl (hb hby at_18) rfl ((if0 _ _).trans (feq hc18_156).1) k) ?_
      show Own.Fin p e below (s₁.setTop (mkF m 21 #[.val (.long q1), .second, .val (.long q2), .second, .val (.long q3), .second, .val (.int p4), .val (.long q1), .second, .unset, .unset, .unset, .unset, .unset, .unset, .unset, .unset, .unset] [])) _
      refine Own.go (fun t k => XS.lload X0.here hx rfl (hb hby at_21) rfl k) ?_
      show Own.Fin p e below (s₁.setTop (mkF m 23 #[.val (.long q1), .second, .val (.long q2), .second, .val (.long q3), .second, .val (.int p4), .val (.long q1), .second, .unset, .unset, .unset, .unset, .unset, .unset, .unset, .unset, .unset] [(.long q1)])) _
      refine Own.go (fun t k => XS.goto X0.here hx rfl (pc0 := 23) (pc' := 28) rfl (hb hby at_23) (by decide) (by decide) k) ?_
      show Own.Fin p e below (s₁.setTop (mkF m 28 #[.val (.long q1), .second, .val (.long q2), .second, .val (.long q3), .second, .val (.int p4), .val (.long q1), .second, .unset, .unset, .unset, .unset, .unset, .unset, .unset, .unset, .unset] [(.long q1)])) _
      refine Own.go (fun t k => XS.lstore X0.here hx rfl (hb hby at_28) rfl (l' := #[.val (.long q1), .second, .val (.long q2), .second, .val (.long q3), .second, .val (.int p4), .val (.long q1), .second, .val (.long q1), .second, .unset, .unset, .unset, .unset, .unset, .unset, .unset]) rfl k) ?_
      show Own.Fin p e below (s₁.setTop (mkF m 30 #[.val (.long q1), .second, .val (.long q2), .second, .val (.long q3), .second, .val (.int p4), .val (.long q1), .second, .val (.long q1), .second, .unset, .unset, .unset, .unset, .unset, .unset, .unset] [])) _
      exact tail _ _
set_option maxRecDepth 65536 in
set_option maxHeartbeats 40000000 in
theorem comes_1 {Post : Tables → Env → Array Value → State → Outcome → State → Prop} (hpost : ∀ tb e args s v u, (limb_1_1.after args s (.returned v) u = true ∧ limb_1_2.after args s (.returned v) u = true ∧ True) → FrameEnd s (.returned v) u (Jvm.fieldLocs frame_1_writes args s ++ Jvm.arrayLocs frame_1_arrays args s ++ Jvm.staticLocs frame_1_statics s) 0 0 → Post tb e args s (.returned v) u) :
    ArmFor flags0 classFile x code maxLocals ret World_1 tables_1 room_1 Calls_1 rest_1 Pre_1 Post := by
  intro l hfl _ _ p e ha hc hk s m args below hf hA hF happ hP
  obtain ⟨hcalls, hrest, hpre⟩ := hP
  obtain ⟨-, -, -, hnamed, -, -, -, hat⟩ := (Spec.applies_iff hf).mp happ
  obtain ⟨hg, hn⟩ := and_e (Cond.before_iff.mp (show (Jvm.Cond.and given_1 narrow_1).before args s = true from hpre))
  obtain ⟨g1, g2⟩ := and_e hg
  obtain ⟨g3, g4⟩ := and_e g2
  obtain ⟨g5, g6⟩ := and_e g4
  obtain ⟨g7, g8⟩ := and_e g6
  obtain ⟨w0, w1, w2, w3, rfl⟩ : ∃ w0 w1 w2 w3 : Value, args = #[w0, w1, w2, w3] := by
    have hs : args.size = 4 := by simpa [Cond.value, given_1] using g1
    obtain ⟨L⟩ := args
    match L, hs with
    | [w0, w1, w2, w3], _ => exact ⟨w0, w1, w2, w3, rfl⟩
  have hw := fun d (hd : d ∈ tables_1) => atoms_spec (ws := Jvm.Cond.code x code maxLocals ret :: tables_1) hat d (List.mem_cons_of_mem _ hd)
  have hfit : Fit s := fun {y c} hc i hi => by
    obtain ⟨ha, rfl⟩ := Array.getElem?_eq_some_iff.mp hc
    have q := List.all_eq_true.mp ((Array.all_eq_true_iff_forall_mem.mp hF) _ (Array.getElem_mem ha)) i (List.mem_range.mpr hi)
    simpa [Array.getElem?_eq_getElem hi] using q
  obtain ⟨i0, ei0⟩ := isL_v g3
  obtain rfl : w0 = (.long i0) := Option.some.inj ei0
  obtain ⟨i1, ei1⟩ := isL_v g5
  obtain rfl : w1 = (.long i1) := Option.some.inj ei1
  obtain ⟨i2, ei2⟩ := isL_v g7
  obtain rfl : w2 = (.long i2) := Option.some.inj ei2
  obtain ⟨i3, ei3⟩ := is_v g8
  obtain rfl : w3 = (.int i3) := Option.some.inj ei3
  obtain ⟨n, o, h1, h2, h3, _, L, rfl, ⟨rfl, N⟩, hq⟩ := rm0 l s _ hw tables_1 i0 i1 i2 i3 s.heap s.heap.size (Nat.le_refl _)  p e ha hc hk s m _ below hf ((Spec.applies_iff_loose hf).mp happ).1 ⟨rfl, State.Warmed39.refl s, rfl⟩ trivial
  refine ⟨n, _, h1, h2, h3, hpost _ _ _ _ _ _ ⟨Cond.after_iff.mpr rfl, Cond.after_iff.mpr (eq_i res_at (Term.int_eval (1)) rfl), trivial⟩ ⟨hq.1, hq.2.1, (hq.2.2.sift fun y hy => Or.inr (N y hy)).mono (by decide) (by decide)⟩⟩
theorem main_1_1 : Claimed_1_1 := comes_1 fun _ _ _ _ _ _ h hF => ⟨h.1, hF⟩
theorem main_1_2 : Claimed_1_2 := comes_1 fun _ _ _ _ _ _ h hF => ⟨h.2.1, hF⟩
end Jvm.Pilot.@@N@@
namespace Jvm.Pilot.@@N@@
open Jvm Jvm.ClassFile Sem Op Lib Jvm.Free Jvm.Stand Jvm.Pilot.@@N@@.Jvm.D
/-! MADE BY PROGRAM (witnessworld.py) out of the Statement's table words and the real class files: 10 classes; the members and pool entries that the words name. The judged class is class 1, her method 1. -/
namespace start1
open Jvm.ClassFile
def u (s : String) : CpInfo := .utf8 (stringToUtf16 s)
/-- a pool by its gaps: so many unusable entries, then the entry; so many at the end -/
def gap : Nat → List CpInfo → List CpInfo
  | 0, r => r
  | n + 1, r => .unusable :: gap n r
def poolList (es : List (Nat × CpInfo)) (last : Nat) : List CpInfo := es.foldr (fun e r => gap e.1 (e.2 :: r)) (gap last [])
def pool (es : List (Nat × CpInfo)) (last : Nat) : Array CpInfo := ⟨poolList es last⟩
def fileOf (pool : Array CpInfo) (this : Nat) (attrs : Array Attribute := #[]) (ms : Array MethodInfo := #[]) (fl : Nat := 33) (sup : Nat := 0) (ifs : Array Nat := #[]) (fds : Array FieldInfo := #[]) : ClassFile where
  minorVersion := 0
  majorVersion := 65
  constantPool := pool
  accessFlags := fl
  thisClass := this
  superClass := sup
  interfaces := ifs
  fields := fds
  methods := ms
  attributes := attrs
def plain (name : String) (sup : Option ClassId) : Class where
  name := name
  kind := .ordinary
  loader := none
  accessFlags := 33
  super := sup
  interfaces := #[]
  cf := none
  fields := #[]
  methods := #[]
  instanceTypes := #[]
  staticTypes := #[]
  resolved := #[]
  callSites := []
  init := .initialized
  statics := none
  mirror := none

def pool0 : Array CpInfo := pool [(5, u "<init>"), (0, u "()V"), (1, .class_ 10), (1, u "java/lang/Object")] 113

def k0m0 : Method := { name := "<init>", desc := "()V", sig := { parameters := [], returnType := none }, accessFlags := 1, code := none }
/-- java/lang/Object -/
def k0 : Class := { plain "java/lang/Object" none with
  accessFlags := 33
  interfaces := #[]
  cf := some (fileOf pool0 8 #[] #[{ accessFlags := 1, nameIndex := 5, descriptorIndex := 6, attributes := #[] }] 33 0 #[] #[])
  fields := #[]
  methods := #[k0m0]
  instanceTypes := #[]
  staticTypes := #[]
  resolved := Array.replicate 124 none
  statics := none }

def pool1 : Array CpInfo := pool [(2, .class_ 4), (1, u "java/lang/Object"), (0, u "<init>"), (0, u "()V"), (0, .methodref 8 9), (0, .class_ 10), (0, .nameAndType 11 12), (0, u "org/laneweave/lanes/Copies"), (0, u "countsOver"), (0, u "(JJ)Z"), (0, .methodref 14 15), (0, .class_ 16), (0, .nameAndType 17 18), (0, u "java/lang/Math"), (0, u "max"), (0, u "(JJ)J"), (0, .class_ 20), (0, u "org/laneweave/lanes/CopiesCountsOverPinLaw"), (2, u "law"), (0, u "(JJJI)Z")] 3

def k1m0 : Method := { name := "<init>", desc := "()V", sig := { parameters := [], returnType := none }, accessFlags := 1, code := none }
def k1c1 : Code := { maxStack := 5, maxLocals := 18, code := code, exceptionTable := #[], attributes := #[] }
def k1m1 : Method := { name := "law", desc := "(JJJI)Z", sig := { parameters := [.long, .long, .long, .int], returnType := some .boolean }, accessFlags := 9, code := some k1c1 }
/-- org/laneweave/lanes/CopiesCountsOverPinLaw -/
def k1 : Class := { plain "org/laneweave/lanes/CopiesCountsOverPinLaw" (some 0) with
  accessFlags := 49
  interfaces := #[]
  cf := some (fileOf pool1 19 #[] #[{ accessFlags := 1, nameIndex := 5, descriptorIndex := 6, attributes := #[] }, { accessFlags := 9, nameIndex := 23, descriptorIndex := 24, attributes := #[] }] 49 2 #[] #[])
  fields := #[]
  methods := #[k1m0, k1m1]
  instanceTypes := #[]
  staticTypes := #[]
  resolved := Array.replicate 28 none
  statics := none }

def pool2 : Array CpInfo := pool [(2, .class_ 4), (1, u "java/lang/Object"), (0, u "<init>"), (0, u "()V"), (4, .class_ 13), (1, u "org/laneweave/lanes/Copies"), (0, u "row"), (0, u "Lorg/laneweave/lanes/BitRow;"), (2, u "ascending"), (0, u "Z"), (2, u "count"), (0, u "I"), (2, u "last"), (0, u "J"), (10, u "kept"), (2, u "counted"), (0, u "[I"), (10, .class_ 54), (0, u "org/laneweave/lanes/Copies$Reader"), (52, u "countsOver"), (0, u "(JJ)Z"), (0, u "WIDTH_BITS"), (13, .class_ 124), (0, u "org/laneweave/lanes/Copies$Kept")] 3

def k2m0 : Method := { name := "<init>", desc := "()V", sig := { parameters := [], returnType := none }, accessFlags := 0, code := none }
def k2c1 : Code := { maxStack := 4, maxLocals := 4, code := prog_12_method_7_code, exceptionTable := #[], attributes := #[] }
def k2m1 : Method := { name := "countsOver", desc := "(JJ)Z", sig := { parameters := [.long, .long], returnType := some .boolean }, accessFlags := 8, code := some k2c1 }
/-- org/laneweave/lanes/Copies -/
def k2 : Class := { plain "org/laneweave/lanes/Copies" (some 0) with
  accessFlags := 48
  interfaces := #[]
  cf := some (fileOf pool2 11 #[.nestMembers #[123, 53]] #[{ accessFlags := 0, nameIndex := 5, descriptorIndex := 6, attributes := #[] }, { accessFlags := 8, nameIndex := 107, descriptorIndex := 108, attributes := #[] }] 48 2 #[] #[{ accessFlags := 26, nameIndex := 109, descriptorIndex := 23, attributes := #[] }, { accessFlags := 18, nameIndex := 14, descriptorIndex := 15, attributes := #[] }, { accessFlags := 2, nameIndex := 22, descriptorIndex := 23, attributes := #[] }, { accessFlags := 2, nameIndex := 38, descriptorIndex := 23, attributes := #[] }, { accessFlags := 2, nameIndex := 26, descriptorIndex := 27, attributes := #[] }, { accessFlags := 2, nameIndex := 18, descriptorIndex := 19, attributes := #[] }, { accessFlags := 66, nameIndex := 41, descriptorIndex := 42, attributes := #[] }])
  fields := #[{ name := "WIDTH_BITS", type := .int, accessFlags := 26, slot := 0, constantValue := 0 }, { name := "row", type := (.object "org/laneweave/lanes/BitRow"), accessFlags := 18, slot := 0, constantValue := 0 }, { name := "count", type := .int, accessFlags := 2, slot := 1, constantValue := 0 }, { name := "kept", type := .int, accessFlags := 2, slot := 2, constantValue := 0 }, { name := "last", type := .long, accessFlags := 2, slot := 3, constantValue := 0 }, { name := "ascending", type := .boolean, accessFlags := 2, slot := 4, constantValue := 0 }, { name := "counted", type := (.array .int), accessFlags := 66, slot := 5, constantValue := 0 }]
  methods := #[k2m0, k2m1]
  instanceTypes := #[(.object "org/laneweave/lanes/BitRow"), .int, .int, .long, .boolean, (.array .int)]
  staticTypes := #[.int]
  resolved := Array.replicate 128 none
  statics := none }

def pool3 : Array CpInfo := pool [(1, .class_ 2), (0, u "java/lang/Math"), (1, .class_ 6), (1, u "java/lang/Object"), (0, u "<init>"), (0, u "()V"), (89, .class_ 100), (1, u "java/lang/Math$RandomNumberGeneratorHolder"), (20, u "(JJ)J"), (50, u "negativeZeroFloatBits"), (0, u "J"), (2, u "negativeZeroDoubleBits"), (21, u "max"), (46, u "$assertionsDisabled"), (0, u "Z"), (91, u "twoToTheDoubleScaleDown"), (0, u "D"), (4, u "twoToTheDoubleScaleUp"), (9, u "E"), (3, u "PI"), (2, u "TAU"), (2, u "DEGREES_TO_RADIANS"), (0, u "RADIANS_TO_DEGREES")] 94

def k3m0 : Method := { name := "<init>", desc := "()V", sig := { parameters := [], returnType := none }, accessFlags := 2, code := none }
def k3c1 : Code := { maxStack := 4, maxLocals := 4, code := jdk_29_method_66_code, exceptionTable := #[], attributes := #[] }
def k3m1 : Method := { name := "max", desc := "(JJ)J", sig := { parameters := [.long, .long], returnType := some .long }, accessFlags := 9, code := some k3c1 }
/-- java/lang/Math -/
def k3 : Class := { plain "java/lang/Math" (some 0) with
  accessFlags := 49
  interfaces := #[]
  cf := some (fileOf pool3 1 #[.nestMembers #[98]] #[{ accessFlags := 2, nameIndex := 7, descriptorIndex := 8, attributes := #[] }, { accessFlags := 9, nameIndex := 198, descriptorIndex := 121, attributes := #[] }] 49 4 #[] #[{ accessFlags := 25, nameIndex := 354, descriptorIndex := 339, attributes := #[] }, { accessFlags := 25, nameIndex := 358, descriptorIndex := 339, attributes := #[] }, { accessFlags := 25, nameIndex := 361, descriptorIndex := 339, attributes := #[] }, { accessFlags := 26, nameIndex := 364, descriptorIndex := 339, attributes := #[] }, { accessFlags := 26, nameIndex := 365, descriptorIndex := 339, attributes := #[] }, { accessFlags := 26, nameIndex := 172, descriptorIndex := 173, attributes := #[] }, { accessFlags := 26, nameIndex := 176, descriptorIndex := 173, attributes := #[] }, { accessFlags := 8, nameIndex := 344, descriptorIndex := 339, attributes := #[] }, { accessFlags := 8, nameIndex := 338, descriptorIndex := 339, attributes := #[] }, { accessFlags := 4120, nameIndex := 245, descriptorIndex := 246, attributes := #[] }])
  fields := #[{ name := "E", type := .double, accessFlags := 25, slot := 0, constantValue := 0 }, { name := "PI", type := .double, accessFlags := 25, slot := 1, constantValue := 0 }, { name := "TAU", type := .double, accessFlags := 25, slot := 2, constantValue := 0 }, { name := "DEGREES_TO_RADIANS", type := .double, accessFlags := 26, slot := 3, constantValue := 0 }, { name := "RADIANS_TO_DEGREES", type := .double, accessFlags := 26, slot := 4, constantValue := 0 }, { name := "negativeZeroFloatBits", type := .long, accessFlags := 26, slot := 5, constantValue := 0 }, { name := "negativeZeroDoubleBits", type := .long, accessFlags := 26, slot := 6, constantValue := 0 }, { name := "twoToTheDoubleScaleUp", type := .double, accessFlags := 8, slot := 7, constantValue := 0 }, { name := "twoToTheDoubleScaleDown", type := .double, accessFlags := 8, slot := 8, constantValue := 0 }, { name := "$assertionsDisabled", type := .boolean, accessFlags := 4120, slot := 9, constantValue := 0 }]
  methods := #[k3m0, k3m1]
  instanceTypes := #[]
  staticTypes := #[.double, .double, .double, .double, .double, .long, .long, .double, .double, .boolean]
  resolved := Array.replicate 460 none
  statics := none }

def pool4 : Array CpInfo := pool [(1, u "java/lang/Cloneable"), (0, .class_ 1), (0, u "java/lang/Object"), (0, .class_ 3)] 3

/-- java/lang/Cloneable -/
def k4 : Class := { plain "java/lang/Cloneable" (some 0) with
  accessFlags := 1537
  interfaces := #[]
  cf := some (fileOf pool4 2 #[] #[] 1537 4 #[] #[])
  fields := #[]
  methods := #[]
  instanceTypes := #[]
  staticTypes := #[]
  resolved := Array.replicate 8 none
  statics := none }

def pool5 : Array CpInfo := pool [(1, u "java/io/Serializable"), (0, .class_ 1), (0, u "java/lang/Object"), (0, .class_ 3)] 3

/-- java/io/Serializable -/
def k5 : Class := { plain "java/io/Serializable" (some 0) with
  accessFlags := 1537
  interfaces := #[]
  cf := some (fileOf pool5 2 #[] #[] 1537 4 #[] #[])
  fields := #[]
  methods := #[]
  instanceTypes := #[]
  staticTypes := #[]
  resolved := Array.replicate 8 none
  statics := none }

/-- the primitive byte -/
def k6 : Class := { plain "byte" none with kind := .primitive 'B', accessFlags := 0x411 }
/-- [B -/
def k7 : Class := { plain "[B" (some 0) with kind := .array 6 .byte, interfaces := #[4, 5], accessFlags := 1041 }

/-- the primitive int -/
def k8 : Class := { plain "int" none with kind := .primitive 'I', accessFlags := 0x411 }
/-- [I -/
def k9 : Class := { plain "[I" (some 0) with kind := .array 8 .int, interfaces := #[4, 5], accessFlags := 1041 }

def heap : Heap := #[]
def classes : Array Class := #[k0, k1, k2, k3, k4, k5, k6, k7, k8, k9]
def interned : List (Array UInt16 × Addr) := []
def slotsUsed : Nat := 0
def theMethod : MethodId := ⟨1, 1⟩
def args0 : Array Value := #[.long 5, .long 300, .long 1, .int 2]
def aboutOver (below : List Frame) : State where
  vm := { classes := classes, interned := interned.toArray }
  heap := heap
  slotsUsed := slotsUsed
  threads := #[{ frames := .invoking theMethod args0 :: below }]
def below0 : List Frame := [.native { method := ⟨0, 0⟩, args := #[] }]
def about1 : State := aboutOver below0
def p0 : Program := .bare "" "" ""
def e0 : Env := launch0.env 0 0 0
theorem w_frames : about1.frames = Frame.invoking theMethod args0 :: below0 := rfl
set_option maxRecDepth 65536 in
theorem w_args : argsFit about1.vm theMethod args0 = true := by decide +kernel
set_option maxRecDepth 65536 in
theorem w_heap : heapFits about1 = true := by decide +kernel
set_option maxRecDepth 65536 in
theorem w_runnable : about1.curStatus? = some .runnable := by decide +kernel
set_option maxRecDepth 65536 in
theorem w_alone : about1.alone = true := by decide +kernel
set_option maxRecDepth 65536 in
theorem w_named : about1.methodNamed? x = some theMethod := by decide +kernel
set_option maxRecDepth 65536 in
theorem w_hears : about1.hears theMethod below0 = true := by decide +kernel
set_option maxRecDepth 65536 in
theorem w_ripe : about1.ripe theMethod args0 below0 = true := by decide +kernel
theorem w_running : about1.status = .running := rfl
set_option maxRecDepth 65536 in
theorem w_room : about1.hasRoom e0.platform room_1 = true :=
  launch0.hasRoom_least _ room_1 (by decide +kernel) (by decide +kernel) (by decide +kernel) (by decide +kernel) (by decide +kernel) (by decide +kernel)
theorem allAtoms_all (ts : List Jvm.Cond) (a : Array Jvm.Value) (st : Jvm.State) : (allAtoms ts).before a st = ts.all (fun c => c.before a st) := by
  induction ts with
  | nil => rfl
  | cons c t ih =>
    show (Jvm.Cond.and c (allAtoms t)).before a st = _
    rw [Jvm.Cond.before_and, ih, List.all_cons]
def words1 : List Jvm.Cond := Jvm.Cond.code x code maxLocals ret :: tables_1
/-- a 'code' word, met by the world's own term for the bytes: nothing is compared byte by byte -/
theorem code_word {y : MethodName} {bytes : ByteArray} {mx : Nat} {rt : Option FieldType} {a : Array Value} {s : State} {m : MethodId} {meth : Method} {c : Code} (h1 : s.methodNamed? y = some m) (h2 : s.vm.method? m = some meth) (h3 : meth.code = some c) (h4 : c.code = bytes)
    (h5 : (c.maxLocals == mx && c.exceptionTable.isEmpty && decide (c.maxStack ≤ mostOperands) && decide (meth.sig.returnType = rt) && !meth.locks && decide (parseMethodDescriptor y.desc = some meth.sig)) = true) : (Jvm.Cond.code y bytes mx rt).before a s = true := by
  simp only [Bool.and_eq_true, beq_iff_eq, Bool.not_eq_true', decide_eq_true_eq] at h5
  obtain ⟨⟨⟨⟨⟨g1, g2⟩, g3⟩, g4⟩, g5⟩, g6⟩ := h5
  simp [Cond.before, Cond.holds, Cond.value, h1, h2, h3, h4, g1, g2, g3, g4, g5, g6]
def isCode : Jvm.Cond → Bool
  | .code _ _ _ _ => true
  | _ => false
theorem all_split {L : List Jvm.Cond} {P : Jvm.Cond → Bool} (h1 : L.all (fun c => isCode c || P c) = true) (h2 : ∀ c ∈ L.filter isCode, P c = true) : L.all P = true := by
  refine List.all_eq_true.mpr fun c hc => ?_
  have h := List.all_eq_true.mp h1 c hc
  rcases Bool.eq_false_or_eq_true (isCode c) with hi | hi
  · exact h2 c (List.mem_filter.mpr ⟨hc, hi⟩)
  · simpa [hi] using h
set_option maxRecDepth 65536 in
theorem w_c0 : (Jvm.Cond.code x code maxLocals ret).before args0 about1 = true := code_word (m := ⟨1, 1⟩) (meth := k1m1) (c := k1c1) (by decide +kernel) rfl rfl rfl (by decide +kernel)
set_option maxRecDepth 65536 in
theorem w_c1 : (Jvm.Cond.code ({ cls := "org/laneweave/lanes/Copies", name := "countsOver", desc := "(JJ)Z" } : Jvm.MethodName) prog_12_method_7_code (4 : Nat) (Option.some Jvm.ClassFile.FieldType.boolean)).before args0 about1 = true := code_word (m := ⟨2, 1⟩) (meth := k2m1) (c := k2c1) (by decide +kernel) rfl rfl rfl (by decide +kernel)
set_option maxRecDepth 65536 in
theorem w_c2 : (Jvm.Cond.code ({ cls := "java/lang/Math", name := "max", desc := "(JJ)J" } : Jvm.MethodName) jdk_29_method_66_code (4 : Nat) (Option.some Jvm.ClassFile.FieldType.long)).before args0 about1 = true := code_word (m := ⟨3, 1⟩) (meth := k3m1) (c := k3c1) (by decide +kernel) rfl rfl rfl (by decide +kernel)
def codes1 : List Jvm.Cond := [Jvm.Cond.code x code maxLocals ret, Jvm.Cond.code ({ cls := "org/laneweave/lanes/Copies", name := "countsOver", desc := "(JJ)Z" } : Jvm.MethodName) prog_12_method_7_code (4 : Nat) (Option.some Jvm.ClassFile.FieldType.boolean), Jvm.Cond.code ({ cls := "java/lang/Math", name := "max", desc := "(JJ)J" } : Jvm.MethodName) jdk_29_method_66_code (4 : Nat) (Option.some Jvm.ClassFile.FieldType.long)]
set_option maxRecDepth 65536 in
theorem codes_eq : words1.filter isCode = codes1 := rfl
theorem w_codes : ∀ c ∈ words1.filter isCode, c.before args0 about1 = true := by
  rw [codes_eq]
  intro c hc
  simp only [codes1, List.mem_cons, List.not_mem_nil, or_false] at hc
  rcases hc with rfl | rfl | rfl
  · exact w_c0
  · exact w_c1
  · exact w_c2
set_option maxRecDepth 65536 in
theorem w_t1 : words1.all (fun c => isCode c || c.before args0 about1) = true := by decide +kernel
theorem w_tables : (allAtoms (Jvm.Cond.code x code maxLocals ret :: tables_1)).before args0 about1 = true := by
  rw [allAtoms_all]
  show words1.all (fun c => c.before args0 about1) = true
  refine all_split ?_ w_codes
  rw [w_t1]
set_option maxRecDepth 65536 in
theorem w_case : (Jvm.Cond.and given_1 narrow_1).before args0 about1 = true := by decide +kernel
theorem w_applies : (headSpec (Jvm.Cond.code x code maxLocals ret :: tables_1) room_1).applies x e0.platform about1 = true :=
  (Spec.applies_iff w_frames).mpr ⟨w_running, w_runnable, w_alone, w_named, w_hears, w_ripe, w_room, w_tables⟩
theorem atStart : AtStart classFile x code maxLocals ret World_1 tables_1 room_1 Calls_1 rest_1 Pre_1 launch0 p0 e0 about1 theMethod args0 below0 :=
  ⟨lists_1, trivial, launch0.admits_env _ _ _, launch0.least_env, fairChoices_fair.cas, fairChoices_fair.clock, w_frames, w_args, w_heap, w_applies, trivial, trivial, w_case⟩
end start1
theorem witness_1 : WitnessClaimed_1 := ⟨start1.p0, start1.e0, start1.about1, start1.theMethod, start1.args0, start1.below0, start1.atStart⟩
end Jvm.Pilot.@@N@@
