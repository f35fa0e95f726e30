import JvmDerived
import JvmDerived.Pilot.@@N@@Statement
import JvmDerived.Pilot.@@N@@Code
set_option linter.unusedVariables false
set_option linter.unusedSimpArgs false
namespace Own
open Jvm Jvm.ClassFile Sem Op Lib Jvm.Stand Jvm.Free Jvm.LawKit Jvm.RoadKit
def Fin (p : Program) (e : Env) (below : List Frame) (G : State) (Q : Outcome → State → Prop) : Prop :=
  ∃ s₂ o, Steps p.tables e below G s₂ ∧ s₂.status = .running ∧ Ended s₂ below o ∧ Q o s₂
def Post (s : State) (K : Option Value → Heap → List Loc → Prop) (cc ss : Nat) (o : Outcome) (U : State) : Prop :=
  ∃ v L, o = .returned v ∧ K v U.heap L ∧ FrameEnd s o U L cc ss
theorem go {p : Program} {e : Env} {below : List Frame} {G G' : State} {Q : Outcome → State → Prop} (h : ∀ t, Steps p.tables e below G' t → Steps p.tables e below G t) (k : Fin p e below G' Q) : Fin p e below G Q := by
  obtain ⟨s₂, o, h1, h2⟩ := k
  exact ⟨s₂, o, h _ h1, h2⟩
theorem start {p : Program} {e : Env} {below : List Frame} {T : State} {g g' : JFrame} {Q : Outcome → State → Prop} (q : g = g') (k : Fin p e below (T.setTop g') Q) : Fin p e below (T.setTop g) Q := q ▸ k
theorem clamp_lt {j z : Int32} {n : Nat} (hj : ¬ j < 0 ∧ j < z) (hz : z.toNatClampNeg = n) : j.toNatClampNeg < n := by
  subst hz
  have h1 := hj.1; have h2 := hj.2
  rw [Int32.lt_iff_toInt_lt] at h1 h2
  have h0 : (0 : Int32).toInt = 0 := by decide
  rw [h0] at h1
  show j.toInt.toNat < z.toInt.toNat
  omega
section A
variable {p : Program} {l : Launch} {e : Env} {R : Room} {s : State} {m : MethodId} {args : Array Value} {below : List Frame} {meth : Method} {c : Code} {T : State} {locs : List Loc} {cells slots : Nat}
theorem retAny (X : Stand p l e R s m args below meth c T locs cells slots) {v : Option Value} (hlk : meth.locks = false) (hv : meth.sig.returnType = none → v = none) {g : JFrame}
    (hstep : ∀ fs, (∀ (f : JFrame) (acts : List Action), f.method = m → f.locked = none → f.entered = [] → (doReturn e (T.setTop f) acts v).1 = T.setFrames fs) → Steps p.tables e below (T.setTop g) (T.setFrames fs))
    {K : Option Value → Heap → List Loc → Prop} {cc ss : Nat} (hc : cells ≤ cc) (hs : slots ≤ ss) (hk : K v T.heap locs) : Fin p e below (T.setTop g) (Post s K cc ss) := by
  obtain ⟨fs, hr, hrun, hended, hW, hsame⟩ := X.leave (v := v) hv hlk
  exact ⟨_, _, hstep fs hr, hrun, hended, _, _, rfl, hk, ⟨_, rfl⟩, hW, hsame.mono hc hs⟩
theorem retI (X : Stand p l e R s m args below meth c T locs cells slots) (hx : p.tables.exec = Jvm.exec) (hlk : meth.locks = false) (hret : meth.sig.returnType = some .int) {pc : Nat} {Ls : Array Slot} {z : Int32} {rest : List Value} (hd : decode c.code pc = .ok (.ireturn, 1))
    {K : Option Value → Heap → List Loc → Prop} {cc ss : Nat} (hc : cells ≤ cc) (hs : slots ≤ ss) (hk : K (some (.int z)) T.heap locs) : Fin p e below (T.setTop (mkF m pc Ls (.int z :: rest))) (Post s K cc ss) := by
  refine retAny X (v := some (.int z)) hlk (fun h => by rw [hret] at h; cases h) (fun fs hl => ?_) hc hs hk
  have hm' : T.vm.method? m = some meth := X.method'
  have hn : narrow .int (.int z) = .int z := rfl
  show Steps p.tables e below (T.setTop { method := m, pc := pc, locals := Ls, stack := _ :: rest, locked := none }) _
  jvm_step X.here [X.here.top, hx, hd, hm', hret, hn]
  first | (intro acts; rw [hl _ acts rfl rfl rfl]) | rw [hl _ _ rfl rfl rfl]
  exact Steps.refl _
theorem retN (X : Stand p l e R s m args below meth c T locs cells slots) (hx : p.tables.exec = Jvm.exec) (hlk : meth.locks = false) {t : FieldType} (hret : meth.sig.returnType = some t) (ht : t = .boolean ∨ t = .byte ∨ t = .char ∨ t = .short) {pc : Nat} {Ls : Array Slot} {z : Int32} {rest : List Value} (hd : decode c.code pc = .ok (.ireturn, 1))
    {K : Option Value → Heap → List Loc → Prop} {cc ss : Nat} (hc : cells ≤ cc) (hs : slots ≤ ss) (hk : K (some (.int (nar t z))) T.heap locs) : Fin p e below (T.setTop (mkF m pc Ls (.int z :: rest))) (Post s K cc ss) :=
  retAny X (v := some (.int (nar t z))) hlk (fun h => by rw [hret] at h; cases h) (fun fs hl => RoadKit.retN X hx hret ht hd hl) hc hs hk
theorem retJ (X : Stand p l e R s m args below meth c T locs cells slots) (hx : p.tables.exec = Jvm.exec) (hlk : meth.locks = false) (hret : meth.sig.returnType = some .long) {pc : Nat} {Ls : Array Slot} {z : Int64} {rest : List Value} (hd : decode c.code pc = .ok (.lreturn, 1))
    {K : Option Value → Heap → List Loc → Prop} {cc ss : Nat} (hc : cells ≤ cc) (hs : slots ≤ ss) (hk : K (some (.long z)) T.heap locs) : Fin p e below (T.setTop (mkF m pc Ls (.long z :: rest))) (Post s K cc ss) := by
  refine retAny X (v := some (.long z)) hlk (fun h => by rw [hret] at h; cases h) (fun fs hl => ?_) hc hs hk
  have hm' : T.vm.method? m = some meth := X.method'
  show Steps p.tables e below (T.setTop { method := m, pc := pc, locals := Ls, stack := _ :: rest, locked := none }) _
  jvm_step X.here [X.here.top, hx, hd, hm', hret, narrow]
  first | (intro acts; rw [hl _ acts rfl rfl rfl]) | rw [hl _ _ rfl rfl rfl]
  exact Steps.refl _
theorem retV (X : Stand p l e R s m args below meth c T locs cells slots) (hx : p.tables.exec = Jvm.exec) (hlk : meth.locks = false) (hret : meth.sig.returnType = none) {pc : Nat} {Ls : Array Slot} (hd : decode c.code pc = .ok (.return_, 1))
    {K : Option Value → Heap → List Loc → Prop} {cc ss : Nat} (hc : cells ≤ cc) (hs : slots ≤ ss) (hk : K none T.heap locs) : Fin p e below (T.setTop (mkF m pc Ls [])) (Post s K cc ss) :=
  retAny X (v := none) hlk (fun _ => rfl) (fun fs hl => X.returnOut hx hret hd hl) hc hs hk
theorem cS {Z : State} {a0 : Array Value} {h : Heap} (X : Stand p l e R s m args below meth c T locs cells slots) (hx : p.tables.exec = Jvm.exec) (hZ : Z.Warmed39 s.vm) {own : String} {index : Nat} {y : MethodName} {bytes : ByteArray} {maxL : Nat} {ret : Option FieldType} {rm : Room} {as' : Array Value} {Q : Option Value → Heap → List Loc → Prop}
    (hown : s.vm.findClass own = some m.cls) (w1 : (Cond.methodLink own index y).before a0 Z = true) (w2 : (Cond.static y).before a0 Z = true) (w3 : (Cond.initialized y.cls).before a0 Z = true) (w4 : (Cond.code y bytes maxL ret).before a0 Z = true)
    (hy : y.cls ≠ "java/lang/invoke/MethodHandle" ∧ y.cls ≠ "java/lang/invoke/VarHandle")
    (hM : MetFree l y (head1 [Cond.code y bytes maxL ret] rm) (fun a U => a = as' ∧ Z.Warmed39 U.vm ∧ U.heap = h) (fun _ _ _ _ _ => True) (fun _ U o U' => ∃ v L, o = .returned v ∧ Q v U'.heap L ∧ FrameEnd U o U' L rm.cells rm.slots))
    (hf : rm.frames + 1 ≤ R.frames) {W : Nat} (hl : W + (maxL + 11) + rm.locals ≤ R.locals) {pc : Nat} {ls : Array Slot} {argsL rest : List Value} (hsize : ls.size = c.maxLocals) (hlen : ∀ sig, parseMethodDescriptor y.desc = some sig → argsL.length = sig.parameters.length)
    (has : argsL.toArray = as') (hW : (rest.map fun v => v.category).sum ≤ W) (hd : decode c.code pc = .ok (.invokestatic index, 3)) (eT : T.heap = h) (hcc : cells + rm.cells ≤ R.cells) (hss : slots + rm.slots ≤ R.slots) {P : Outcome → State → Prop}
    (k : ∀ T' L v, Stand p l e R s m args below meth c T' (locs ++ L) (cells + rm.cells) (slots + rm.slots) → Q v T'.heap L → Fin p e below (T'.setTop (mkF m (pc + 3) ls (v.toList ++ rest))) P) :
    Fin p e below (T.setTop (mkF m pc ls (argsL.reverse ++ rest))) P := by
  obtain ⟨v, _, ⟨T', L', k', n'⟩, -, X', ⟨L, hQ, e1, e2, e3⟩, st⟩ := Jvm.LawKit.callS X hx (y := y) hown (mvT hZ w1) (mvT hZ w2) (mvT hZ w3) (mvT hZ w4) hy (backOf (W := W) hM hZ w4 w3 hf hl) (g := mkF m pc ls (argsL.reverse ++ rest)) rfl hsize (argsL := argsL) (rest := rest) hlen rfl
    (by show 2 * 0 + _ ≤ _; omega) hd (fun _ _ => ⟨has, eT, hcc, hss⟩)
  dsimp only [Pt.U, Pt.locs, Pt.cells, Pt.slots] at X' e1 e2 e3 st hQ
  subst e1 e2 e3
  exact go st (k T' L v X' hQ)
theorem cI {Z : State} {a0 : Array Value} {h : Heap} (X : Stand p l e R s m args below meth c T locs cells slots) (hx : p.tables.exec = Jvm.exec) (hZ : Z.Warmed39 s.vm) {own : String} {index : Nat} {y : MethodName} {bytes : ByteArray} {maxL : Nat} {rm : Room} {as' : Array Value} {Q : Option Value → Heap → List Loc → Prop}
    (hy1 : y.name = "<init>") (hown : s.vm.findClass own = some m.cls) (w1 : (Cond.methodLink own index y).before a0 Z = true) (w2 : (Cond.instanceMethod y).before a0 Z = true) (w3 : (Cond.initialized y.cls).before a0 Z = true) (w4 : (Cond.code y bytes maxL none).before a0 Z = true)
    (hy : y.cls ≠ "java/lang/invoke/MethodHandle" ∧ y.cls ≠ "java/lang/invoke/VarHandle")
    (hM : MetFree l y (head1 [Cond.code y bytes maxL none] rm) (fun a U => a = as' ∧ Z.Warmed39 U.vm ∧ U.heap = h) (fun _ _ _ _ _ => True) (fun _ U o U' => ∃ v L, o = .returned v ∧ Q v U'.heap L ∧ FrameEnd U o U' L rm.cells rm.slots))
    (hf : rm.frames + 1 ≤ R.frames) {W : Nat} (hl : W + (maxL + 11) + rm.locals ≤ R.locals) {pc : Nat} {ls : Array Slot} {a : Addr} {argsL rest : List Value} (hsize : ls.size = c.maxLocals) (hlen : ∀ sig, parseMethodDescriptor y.desc = some sig → argsL.length = sig.parameters.length)
    (has : (Value.ref a :: argsL).toArray = as') (hW : (rest.map fun v => v.category).sum ≤ W) (hd : decode c.code pc = .ok (.invokespecial index, 3)) (eT : T.heap = h) (hcc : cells + rm.cells ≤ R.cells) (hss : slots + rm.slots ≤ R.slots) {P : Outcome → State → Prop}
    (k : ∀ T' L v, Stand p l e R s m args below meth c T' (locs ++ L) (cells + rm.cells) (slots + rm.slots) → Q v T'.heap L → Fin p e below (T'.setTop (mkF m (pc + 3) ls (v.toList ++ rest))) P) :
    Fin p e below (T.setTop (mkF m pc ls (argsL.reverse ++ .ref a :: rest))) P := by
  obtain ⟨v, _, ⟨T', L', k', n'⟩, -, X', ⟨L, hQ, e1, e2, e3⟩, st⟩ := X.specialBack hx (y := y) hy1 hown (mvT hZ w1) (mvT hZ w2) (mvT hZ w4) hy (backOf (W := W) hM hZ w4 w3 hf hl) (g := mkF m pc ls (argsL.reverse ++ .ref a :: rest)) rfl hsize (Steps.refl _) (a := a) (argsL := argsL) (rest := rest) hlen rfl
    (by show 2 * 0 + _ ≤ _; omega) hd (fun _ _ => ⟨has, eT, hcc, hss⟩)
  dsimp only [Pt.U, Pt.locs, Pt.cells, Pt.slots] at X' e1 e2 e3 st hQ
  subst e1 e2 e3
  exact go (fun t kt => st.trans kt) (k T' L v X' hQ)
theorem cV {Z : State} {a0 : Array Value} {h : Heap} (X : Stand p l e R s m args below meth c T locs cells slots) (hx : p.tables.exec = Jvm.exec) (hZ : Z.Warmed39 s.vm) {own C : String} {index : Nat} {y z : MethodName} {bytes : ByteArray} {maxL : Nat} {ret : Option FieldType} {rm : Room} {as' : Array Value} {Q : Option Value → Heap → List Loc → Prop}
    (hown : s.vm.findClass own = some m.cls) (w1 : (Cond.methodLink own index y).before a0 Z = true) (w2 : (Cond.declares y).before a0 Z = true) (hnf : NotFace s y) (w5 : (Cond.selects C y z).before a0 Z = true) (w6 : (Cond.instanceMethod z).before a0 Z = true) (w3 : (Cond.initialized z.cls).before a0 Z = true) (w4 : (Cond.code z bytes maxL ret).before a0 Z = true)
    (hy : y.cls ≠ "java/lang/invoke/MethodHandle" ∧ y.cls ≠ "java/lang/invoke/VarHandle")
    (hM : MetFree l z (head1 [Cond.code z bytes maxL ret] rm) (fun a U => a = as' ∧ Z.Warmed39 U.vm ∧ U.heap = h) (fun _ _ _ _ _ => True) (fun _ U o U' => ∃ v L, o = .returned v ∧ Q v U'.heap L ∧ FrameEnd U o U' L rm.cells rm.slots))
    (hf : rm.frames + 1 ≤ R.frames) {W : Nat} (hl : W + (maxL + 11) + rm.locals ≤ R.locals) {pc : Nat} {ls : Array Slot} {a : Addr} {argsL rest : List Value} (E : Exa Z h a C) (hsize : ls.size = c.maxLocals) (hlen : ∀ sig, parseMethodDescriptor y.desc = some sig → argsL.length = sig.parameters.length)
    (has : (Value.ref a :: argsL).toArray = as') (hW : (rest.map fun v => v.category).sum ≤ W) (hd : decode c.code pc = .ok (.invokevirtual index, 3)) (eT : T.heap = h) (hcc : cells + rm.cells ≤ R.cells) (hss : slots + rm.slots ≤ R.slots) {P : Outcome → State → Prop}
    (k : ∀ T' L v, Stand p l e R s m args below meth c T' (locs ++ L) (cells + rm.cells) (slots + rm.slots) → Q v T'.heap L → Fin p e below (T'.setTop (mkF m (pc + 3) ls (v.toList ++ rest))) P) :
    Fin p e below (T.setTop (mkF m pc ls (argsL.reverse ++ .ref a :: rest))) P := by
  obtain ⟨cq, kq, qa, qb, qc⟩ := isOf hZ eT E
  obtain ⟨v, _, ⟨T', L', k', n'⟩, -, X', ⟨L, hQ, e1, e2, e3⟩, st⟩ := X.virtualBack hx (y := y) (z := z) hown (mvT hZ w1) (mvT hZ w2) hnf (mvT hZ w5) (mvT hZ w6) hy (backOf (W := W) hM hZ w4 w3 hf hl) qa qc (g := mkF m pc ls (argsL.reverse ++ .ref a :: rest)) rfl hsize (Steps.refl _) (argsL := argsL) (rest := rest) hlen rfl
    (by show 2 * 0 + _ ≤ _; omega) hd (fun _ _ => ⟨has, eT, hcc, hss⟩)
  dsimp only [Pt.U, Pt.locs, Pt.cells, Pt.slots] at X' e1 e2 e3 st hQ
  subst e1 e2 e3
  exact go (fun t kt => st.trans kt) (k T' L v X' hQ)
theorem newA {Z : State} {a0 : Array Value} {h : Heap} (X : Stand p l e R s m args below meth c T locs cells slots) (hx : p.tables.exec = Jvm.exec) (hZ : Z.Warmed39 s.vm) {aty : ArrayType} (w : (Cond.arrayClass (newarray.typeOf aty)).before a0 Z = true) (eT : T.heap = h)
    {pc : Nat} {ls : Array Slot} {n : Int32} {rest : List Value} (hd : decode c.code pc = .ok (.newarray aty, 2)) (hn : ¬ n < 0) (cap : Nat) (hcap : n.toNatClampNeg ≤ cap) (hb : cap * 8 ≤ 536870912) (hc : cells + 1 ≤ R.cells) (hl : slots + cap ≤ R.slots) {P : Outcome → State → Prop}
    (k : ∀ T' h' b kA, Stand p l e R s m args below meth c T' locs (cells + 1) (slots + cap) → T'.heap = h' → Ext h h' → b = h.size → Arv Z h' b kA (newarray.typeOf aty) n [] (defaultValue (newarray.typeOf aty)) → Fin p e below (T'.setTop (mkF m (pc + 2) ls (.ref b :: rest))) P) :
    Fin p e below (T.setTop (mkF m pc ls (.int n :: rest))) P := by
  obtain ⟨T', h', kA, X', e', E', A', st⟩ := newP X hx hZ w eT (g := mkF m pc ls (.int n :: rest)) rfl hd rfl hn hcap hb hc hl
  exact go st (k T' h' _ kA X' e' E' rfl (Arv.new A' hn))
theorem stI {Z : State} {h : Heap} {a : Addr} {kA : ClassId} {z : Int32} {vs : List Value} {dv : Value} (X : Stand p l e R s m args below meth c T locs cells slots) (hx : p.tables.exec = Jvm.exec) (hZ : Z.Warmed39 s.vm) (eT : T.heap = h) (V : Arv Z h a kA .int z vs dv)
    {pc : Nat} {ls : Array Slot} {j x : Int32} {rest : List Value} (hd : decode c.code pc = .ok (.iastore, 1)) (hj : ¬ j < 0 ∧ j < z) (i : Nat) (hi : j.toNatClampNeg = i) (hlen : i < vs.length) {P : Outcome → State → Prop}
    (k : ∀ T' h', Stand p l e R s m args below meth c T' (locs ++ [⟨a, j.toNatClampNeg⟩]) cells slots → T'.heap = h' → Wr h h' a j.toNatClampNeg (.int x) → Arv Z h' a kA .int z (vs.set i (.int x)) dv → Fin p e below (T'.setTop (mkF m (pc + 1) ls rest)) P) :
    Fin p e below (T.setTop (mkF m pc ls (.int x :: .int j :: .ref a :: rest))) P := by
  obtain ⟨cl, Ar, q, S, N, H, G⟩ := V
  obtain ⟨T', h', X', e', W', st⟩ := RoadKit.stI X hx hZ eT Ar (j := j) (inb_of S hj) (g := mkF m pc ls (.int x :: .int j :: .ref a :: rest)) rfl rfl hd
  exact go st (k T' h' X' e' W' (Arv.set Ar q S N H G rfl W' i hi hlen))
theorem stJ {Z : State} {h : Heap} {a : Addr} {kA : ClassId} {z : Int32} {vs : List Value} {dv : Value} (X : Stand p l e R s m args below meth c T locs cells slots) (hx : p.tables.exec = Jvm.exec) (hZ : Z.Warmed39 s.vm) (eT : T.heap = h) (V : Arv Z h a kA .long z vs dv)
    {pc : Nat} {ls : Array Slot} {j : Int32} {x : Int64} {rest : List Value} (hd : decode c.code pc = .ok (.lastore, 1)) (hj : ¬ j < 0 ∧ j < z) (i : Nat) (hi : j.toNatClampNeg = i) (hlen : i < vs.length) {P : Outcome → State → Prop}
    (k : ∀ T' h', Stand p l e R s m args below meth c T' (locs ++ [⟨a, j.toNatClampNeg⟩]) cells slots → T'.heap = h' → Wr h h' a j.toNatClampNeg (.long x) → Arv Z h' a kA .long z (vs.set i (.long x)) dv → Fin p e below (T'.setTop (mkF m (pc + 1) ls rest)) P) :
    Fin p e below (T.setTop (mkF m pc ls (.long x :: .int j :: .ref a :: rest))) P := by
  obtain ⟨cl, Ar, q, S, N, H, G⟩ := V
  obtain ⟨T', h', X', e', W', st⟩ := RoadKit.stJ X hx hZ eT Ar (j := j) (inb_of S hj) (g := mkF m pc ls (.long x :: .int j :: .ref a :: rest)) rfl rfl hd
  exact go st (k T' h' X' e' W' (Arv.set Ar q S N H G rfl W' i hi hlen))
theorem stB {Z : State} {h : Heap} {a : Addr} {kA : ClassId} {z : Int32} {vs : List Value} {dv : Value} (X : Stand p l e R s m args below meth c T locs cells slots) (hx : p.tables.exec = Jvm.exec) (hZ : Z.Warmed39 s.vm) (eT : T.heap = h) (V : Arv Z h a kA .byte z vs dv)
    {pc : Nat} {ls : Array Slot} {j x : Int32} {rest : List Value} (hd : decode c.code pc = .ok (.bastore, 1)) (hj : ¬ j < 0 ∧ j < z) (i : Nat) (hi : j.toNatClampNeg = i) (hlen : i < vs.length) {P : Outcome → State → Prop}
    (k : ∀ T' h', Stand p l e R s m args below meth c T' (locs ++ [⟨a, j.toNatClampNeg⟩]) cells slots → T'.heap = h' → Wr h h' a j.toNatClampNeg (.int (nar .byte x)) → Arv Z h' a kA .byte z (vs.set i (.int (nar .byte x))) dv → Fin p e below (T'.setTop (mkF m (pc + 1) ls rest)) P) :
    Fin p e below (T.setTop (mkF m pc ls (.int x :: .int j :: .ref a :: rest))) P := by
  obtain ⟨cl, Ar, q, S, N, H, G⟩ := V
  obtain ⟨T', h', X', e', W', st⟩ := RoadKit.stB X hx hZ eT Ar (j := j) (inb_of S hj) (g := mkF m pc ls (.int x :: .int j :: .ref a :: rest)) rfl rfl hd
  exact go st (k T' h' X' e' W' (Arv.set Ar q S N H G (fits_nar_byte _) W' i hi hlen))
theorem stC {Z : State} {h : Heap} {a : Addr} {kA : ClassId} {z : Int32} {vs : List Value} {dv : Value} (X : Stand p l e R s m args below meth c T locs cells slots) (hx : p.tables.exec = Jvm.exec) (hZ : Z.Warmed39 s.vm) (eT : T.heap = h) (V : Arv Z h a kA .char z vs dv)
    {pc : Nat} {ls : Array Slot} {j x : Int32} {rest : List Value} (hd : decode c.code pc = .ok (.castore, 1)) (hj : ¬ j < 0 ∧ j < z) (i : Nat) (hi : j.toNatClampNeg = i) (hlen : i < vs.length) {P : Outcome → State → Prop}
    (k : ∀ T' h', Stand p l e R s m args below meth c T' (locs ++ [⟨a, j.toNatClampNeg⟩]) cells slots → T'.heap = h' → Wr h h' a j.toNatClampNeg (.int (nar .char x)) → Arv Z h' a kA .char z (vs.set i (.int (nar .char x))) dv → Fin p e below (T'.setTop (mkF m (pc + 1) ls rest)) P) :
    Fin p e below (T.setTop (mkF m pc ls (.int x :: .int j :: .ref a :: rest))) P := by
  obtain ⟨cl, Ar, q, S, N, H, G⟩ := V
  obtain ⟨T', h', X', e', W', st⟩ := RoadKit.stC X hx hZ eT Ar (j := j) (inb_of S hj) (g := mkF m pc ls (.int x :: .int j :: .ref a :: rest)) rfl rfl hd
  exact go st (k T' h' X' e' W' (Arv.set Ar q S N H G (fits_nar_char _) W' i hi hlen))
theorem alen {Z : State} {h : Heap} {a : Addr} {kA : ClassId} {ty : FieldType} {z : Int32} {vs : List Value} {dv : Value} (X : Stand p l e R s m args below meth c T locs cells slots) (hx : p.tables.exec = Jvm.exec) (hZ : Z.Warmed39 s.vm) (eT : T.heap = h) (V : Arv Z h a kA ty z vs dv)
    {pc : Nat} {ls : Array Slot} {rest : List Value} (hd : decode c.code pc = .ok (.arraylength, 1)) {P : Outcome → State → Prop} (k : Fin p e below (T.setTop (mkF m (pc + 1) ls (.int z :: rest))) P) :
    Fin p e below (T.setTop (mkF m pc ls (.ref a :: rest))) P := by
  obtain ⟨cl, Ar, q, S, N, H, G⟩ := V
  refine go (fun t kt => X.arraylength hx (by rw [eT]; exact Ar.1) (State.isArrayOf_alike hZ.alike Ar.2.1) (g := mkF m pc ls (.ref a :: rest)) rfl rfl hd t kt) ?_
  rw [len_of S N]
  exact k
theorem arv_at {Z : State} {h : Heap} {a : Addr} {kA : ClassId} {ty : FieldType} {z : Int32} {vs : List Value} {dv : Value} (V : Arv Z h a kA ty z vs dv) {j : Int32} (hj : ¬ j < 0 ∧ j < z) :
    ∃ cl, Arr Z h a cl ty ∧ ¬ (j < 0 ∨ cl.slots.size ≤ j.toNatClampNeg) ∧ cl.slots[j.toNatClampNeg]? = some (vs.getD j.toNatClampNeg dv) ∧ fits ty (vs.getD j.toNatClampNeg dv) = true := by
  obtain ⟨cl, Ar, q, S, N, H, G⟩ := V
  have hin := inb_of S hj
  have hlt : j.toNatClampNeg < cl.slots.size := Nat.lt_of_not_le fun q => hin (Or.inr q)
  exact ⟨cl, Ar, hin, H _ hlt, G _ hlt⟩
theorem ldI {Z : State} {h : Heap} {a : Addr} {kA : ClassId} {z : Int32} {vs : List Value} {dv : Value} (X : Stand p l e R s m args below meth c T locs cells slots) (hx : p.tables.exec = Jvm.exec) (hZ : Z.Warmed39 s.vm) (eT : T.heap = h) (V : Arv Z h a kA .int z vs dv)
    {pc : Nat} {ls : Array Slot} {j : Int32} {rest : List Value} (hd : decode c.code pc = .ok (.iaload, 1)) (hj : ¬ j < 0 ∧ j < z) {P : Outcome → State → Prop} (k : ∀ x, vs.getD j.toNatClampNeg dv = .int x → Fin p e below (T.setTop (mkF m (pc + 1) ls (.int x :: rest))) P) :
    Fin p e below (T.setTop (mkF m pc ls (.int j :: .ref a :: rest))) P := by
  obtain ⟨cl, Ar, hin, hat, hf⟩ := arv_at V hj
  obtain ⟨x, hx'⟩ := fit_I hf (Or.inl rfl)
  refine go (fun t kt => X.iaload hx (j := j) (v := .int x) (by rw [eT]; exact Ar.1) (State.isArrayOf_alike hZ.alike Ar.2.1) Ar.2.2 hin (by rw [hat, hx']) (g := mkF m pc ls (.int j :: .ref a :: rest)) rfl rfl hd t kt) (k x hx')
theorem ldJ {Z : State} {h : Heap} {a : Addr} {kA : ClassId} {z : Int32} {vs : List Value} {dv : Value} (X : Stand p l e R s m args below meth c T locs cells slots) (hx : p.tables.exec = Jvm.exec) (hZ : Z.Warmed39 s.vm) (eT : T.heap = h) (V : Arv Z h a kA .long z vs dv)
    {pc : Nat} {ls : Array Slot} {j : Int32} {rest : List Value} (hd : decode c.code pc = .ok (.laload, 1)) (hj : ¬ j < 0 ∧ j < z) {P : Outcome → State → Prop} (k : ∀ x, vs.getD j.toNatClampNeg dv = .long x → Fin p e below (T.setTop (mkF m (pc + 1) ls (.long x :: rest))) P) :
    Fin p e below (T.setTop (mkF m pc ls (.int j :: .ref a :: rest))) P := by
  obtain ⟨cl, Ar, hin, hat, hf⟩ := arv_at V hj
  obtain ⟨x, hx'⟩ := fit_J hf
  refine go (fun t kt => X.laload hx (j := j) (v := .long x) (by rw [eT]; exact Ar.1) (State.isArrayOf_alike hZ.alike Ar.2.1) Ar.2.2 hin (by rw [hat, hx']) (g := mkF m pc ls (.int j :: .ref a :: rest)) rfl rfl hd t kt) (k x hx')
theorem ldB {Z : State} {h : Heap} {a : Addr} {kA : ClassId} {z : Int32} {vs : List Value} {dv : Value} (X : Stand p l e R s m args below meth c T locs cells slots) (hx : p.tables.exec = Jvm.exec) (hZ : Z.Warmed39 s.vm) (eT : T.heap = h) (V : Arv Z h a kA .byte z vs dv)
    {pc : Nat} {ls : Array Slot} {j : Int32} {rest : List Value} (hd : decode c.code pc = .ok (.baload, 1)) (hj : ¬ j < 0 ∧ j < z) {P : Outcome → State → Prop} (k : ∀ x, vs.getD j.toNatClampNeg dv = .int x → Fin p e below (T.setTop (mkF m (pc + 1) ls (.int x :: rest))) P) :
    Fin p e below (T.setTop (mkF m pc ls (.int j :: .ref a :: rest))) P := by
  obtain ⟨cl, Ar, hin, hat, hf⟩ := arv_at V hj
  obtain ⟨x, hx'⟩ := fit_I hf (Or.inr (Or.inr (Or.inl rfl)))
  refine go (fun t kt => X.baloadBytes hx (j := j) (v := .int x) (by rw [eT]; exact Ar.1) (State.isArrayOf_alike hZ.alike Ar.2.1) Ar.2.2 hin (by rw [hat, hx']) (g := mkF m pc ls (.int j :: .ref a :: rest)) rfl rfl hd t kt) (k x hx')
theorem ldC {Z : State} {h : Heap} {a : Addr} {kA : ClassId} {z : Int32} {vs : List Value} {dv : Value} (X : Stand p l e R s m args below meth c T locs cells slots) (hx : p.tables.exec = Jvm.exec) (hZ : Z.Warmed39 s.vm) (eT : T.heap = h) (V : Arv Z h a kA .char z vs dv)
    {pc : Nat} {ls : Array Slot} {j : Int32} {rest : List Value} (hd : decode c.code pc = .ok (.caload, 1)) (hj : ¬ j < 0 ∧ j < z) {P : Outcome → State → Prop} (k : ∀ x, vs.getD j.toNatClampNeg dv = .int x → Fin p e below (T.setTop (mkF m (pc + 1) ls (.int x :: rest))) P) :
    Fin p e below (T.setTop (mkF m pc ls (.int j :: .ref a :: rest))) P := by
  obtain ⟨cl, Ar, hin, hat, hf⟩ := arv_at V hj
  obtain ⟨x, hx'⟩ := fit_I hf (Or.inr (Or.inr (Or.inr (Or.inl rfl))))
  refine go (fun t kt => X.caload hx (j := j) (v := .int x) (by rw [eT]; exact Ar.1) (State.isArrayOf_alike hZ.alike Ar.2.1) Ar.2.2 hin (by rw [hat, hx']) (g := mkF m pc ls (.int j :: .ref a :: rest)) rfl rfl hd t kt) (k x hx')
theorem ldR {Z : State} {h : Heap} {a : Addr} {kA : ClassId} {ty : FieldType} {z : Int32} {vs : List Value} {dv : Value} (X : Stand p l e R s m args below meth c T locs cells slots) (hx : p.tables.exec = Jvm.exec) (hZ : Z.Warmed39 s.vm) (eT : T.heap = h) (V : Arv Z h a kA ty z vs dv) (ht : ty.isReference = true)
    {pc : Nat} {ls : Array Slot} {j : Int32} {rest : List Value} (hd : decode c.code pc = .ok (.aaload, 1)) (hj : ¬ j < 0 ∧ j < z) {w : Value} (hv : vs.getD j.toNatClampNeg dv = w) {P : Outcome → State → Prop} (k : Fin p e below (T.setTop (mkF m (pc + 1) ls (w :: rest))) P) :
    Fin p e below (T.setTop (mkF m pc ls (.int j :: .ref a :: rest))) P := by
  obtain ⟨cl, Ar, hin, hat, hf⟩ := arv_at V hj
  exact go (fun t kt => X.aaload hx (j := j) (v := w) (by rw [eT]; exact Ar.1) (State.isArrayOf_alike hZ.alike Ar.2.1) ht Ar.2.2 hin (by rw [hat, hv]) (g := mkF m pc ls (.int j :: .ref a :: rest)) rfl rfl hd t kt) k
theorem ldBc {Z : State} {h : Heap} {a : Addr} {cl : Cell} (X : Stand p l e R s m args below meth c T locs cells slots) (hx : p.tables.exec = Jvm.exec) (hZ : Z.Warmed39 s.vm) (eT : T.heap = h) (A : Arr Z h a cl .byte)
    {pc : Nat} {ls : Array Slot} {j x : Int32} {rest : List Value} (hd : decode c.code pc = .ok (.baload, 1)) (hin : ¬ (j < 0 ∨ cl.slots.size ≤ j.toNatClampNeg)) (hv : cl.slots[j.toNatClampNeg]? = some (.int x)) {P : Outcome → State → Prop} (k : Fin p e below (T.setTop (mkF m (pc + 1) ls (.int x :: rest))) P) :
    Fin p e below (T.setTop (mkF m pc ls (.int j :: .ref a :: rest))) P :=
  go (fun t kt => X.baloadBytes hx (j := j) (v := .int x) (by rw [eT]; exact A.1) (State.isArrayOf_alike hZ.alike A.2.1) A.2.2 hin hv (g := mkF m pc ls (.int j :: .ref a :: rest)) rfl rfl hd t kt) k
theorem alenC {Z : State} {h : Heap} {a : Addr} {cl : Cell} {ty : FieldType} {z : Int32} (X : Stand p l e R s m args below meth c T locs cells slots) (hx : p.tables.exec = Jvm.exec) (hZ : Z.Warmed39 s.vm) (eT : T.heap = h) (A : Arr Z h a cl ty) (hz : cl.slots.size.toInt32 = z)
    {pc : Nat} {ls : Array Slot} {rest : List Value} (hd : decode c.code pc = .ok (.arraylength, 1)) {P : Outcome → State → Prop} (k : Fin p e below (T.setTop (mkF m (pc + 1) ls (.int z :: rest))) P) :
    Fin p e below (T.setTop (mkF m pc ls (.ref a :: rest))) P := by
  refine go (fun t kt => X.arraylength hx (by rw [eT]; exact A.1) (State.isArrayOf_alike hZ.alike A.2.1) (g := mkF m pc ls (.ref a :: rest)) rfl rfl hd t kt) ?_
  rw [hz]
  exact k
theorem retR (X : Stand p l e R s m args below meth c T locs cells slots) (hx : p.tables.exec = Jvm.exec) (hlk : meth.locks = false) {t : FieldType} (hret : meth.sig.returnType = some t) (ht : t.isReference = true) {pc : Nat} {Ls : Array Slot} {z : Value} (hz : z.isRef = true) {rest : List Value} (hd : decode c.code pc = .ok (.areturn, 1))
    {K : Option Value → Heap → List Loc → Prop} {cc ss : Nat} (hc : cells ≤ cc) (hs : slots ≤ ss) (hk : K (some z) T.heap locs) : Fin p e below (T.setTop (mkF m pc Ls (z :: rest))) (Post s K cc ss) := by
  refine retAny X (v := some z) hlk (fun h => by rw [hret] at h; cases h) (fun fs hl => ?_) hc hs hk
  have hm' : T.vm.method? m = some meth := X.method'
  show Steps p.tables e below (T.setTop { method := m, pc := pc, locals := Ls, stack := _ :: rest, locked := none }) _
  jvm_step X.here [X.here.top, hx, hd, hm', hret, ht, hz]
  first | (intro acts; rw [hl _ acts rfl rfl rfl]) | rw [hl _ _ rfl rfl rfl]
  exact Steps.refl _
theorem cP {Z : State} {a0 : Array Value} {h : Heap} (X : Stand p l e R s m args below meth c T locs cells slots) (hx : p.tables.exec = Jvm.exec) (hZ : Z.Warmed39 s.vm) {own C : String} {index : Nat} {y y' : MethodName} {bytes : ByteArray} {maxL : Nat} {ret : Option FieldType} {rm : Room} {as' : Array Value} {Q : Option Value → Heap → List Loc → Prop}
    (hown : s.vm.findClass own = some m.cls) (w1 : (Cond.methodLink own index y).before a0 Z = true) (w2 : (Cond.instanceMethod y).before a0 Z = true) (w5 : (Cond.privateMethod y).before a0 Z = true) (w7 : (Cond.selects C y' y').before a0 Z = true) (hcl : y'.cls = y.cls) (w3 : (Cond.initialized y.cls).before a0 Z = true) (w4 : (Cond.code y bytes maxL ret).before a0 Z = true)
    (hy : y.cls ≠ "java/lang/invoke/MethodHandle" ∧ y.cls ≠ "java/lang/invoke/VarHandle")
    (hM : MetFree l y (head1 [Cond.code y bytes maxL ret] rm) (fun a U => a = as' ∧ Z.Warmed39 U.vm ∧ U.heap = h) (fun _ _ _ _ _ => True) (fun _ U o U' => ∃ v L, o = .returned v ∧ Q v U'.heap L ∧ FrameEnd U o U' L rm.cells rm.slots))
    (hf : rm.frames + 1 ≤ R.frames) {W : Nat} (hl : W + (maxL + 11) + rm.locals ≤ R.locals) {pc : Nat} {ls : Array Slot} {a : Addr} {argsL rest : List Value} {C' : String} (E : Exa Z h a C') (hsize : ls.size = c.maxLocals) (hlen : ∀ sig, parseMethodDescriptor y.desc = some sig → argsL.length = sig.parameters.length)
    (has : (Value.ref a :: argsL).toArray = as') (hW : (rest.map fun v => v.category).sum ≤ W) (hd : decode c.code pc = .ok (.invokevirtual index, 3)) (eT : T.heap = h) (hcc : cells + rm.cells ≤ R.cells) (hss : slots + rm.slots ≤ R.slots) {P : Outcome → State → Prop}
    (k : ∀ T' L v, Stand p l e R s m args below meth c T' (locs ++ L) (cells + rm.cells) (slots + rm.slots) → Q v T'.heap L → Fin p e below (T'.setTop (mkF m (pc + 3) ls (v.toList ++ rest))) P) :
    Fin p e below (T.setTop (mkF m pc ls (argsL.reverse ++ .ref a :: rest))) P := by
  have hpr : s.PrivateAt y := Cond.privateMethod_at (mvP hZ w5 (args := #[]))
  have hsel : (Cond.selects y.cls y y).before args s = true := by
    obtain ⟨c2, r2, m2, q1, q2, q3, q4, kP, hkP, hkPi⟩ := Cond.selects_spec (mvT (args := args) hZ w7)
    exact selects_self_of_private (hcl ▸ findClass_of_methodNamed q3) hkP hkPi hpr (mvT hZ w2) hy
  obtain ⟨cq, q1, q2⟩ := E.cell
  obtain ⟨v, _, ⟨T', L', k', n'⟩, -, X', ⟨L, hQ, e1, e2, e3⟩, st⟩ := X.privateBack hx (y := y) hown (mvT hZ w1) (mvT hZ w2) hsel hpr (mvT hZ w4) hy (backOf (W := W) hM hZ w4 w3 hf hl) (g := mkF m pc ls (argsL.reverse ++ .ref a :: rest)) rfl hsize (Steps.refl _) (a := a) (by rw [eT]; exact q1) q2 (argsL := argsL) (rest := rest) hlen rfl
    (by show 2 * 0 + _ ≤ _; omega) hd (fun _ _ => ⟨has, eT, hcc, hss⟩)
  dsimp only [Pt.U, Pt.locs, Pt.cells, Pt.slots] at X' e1 e2 e3 st hQ
  subst e1 e2 e3
  exact go (fun t kt => st.trans kt) (k T' L v X' hQ)
end A
section B
variable {args : Array Value} {first s : State} {o : Option Outcome} {idx : List Nat} {a b : Term}
theorem eqR {y : Addr} (h : (Cond.eq a b).value args first o s idx = some true) (hb : b.eval args first o idx s = some (.ref y)) : a.eval args first o idx s = some (.ref y) := by
  obtain ⟨x', y', h1, h2, k1, k2⟩ := cmp_v (Or.inl h)
  cases hb.symm.trans h2
  have hx : x'.isRef = true := k2.2
  rw [h1, gotT (eq_R h1 hb hx rfl) h]
theorem eqI {y : Int32} (h : (Cond.eq a b).value args first o s idx = some true) (hb : b.eval args first o idx s = some (.int y)) : a.eval args first o idx s = some (.int y) := by
  obtain ⟨x', y', h1, h2, k1, k2⟩ := cmp_v (Or.inl h)
  cases hb.symm.trans h2
  obtain ⟨z, rfl⟩ := k2
  rw [h1, gotT (Cond.eq_ints h1 hb) h]
theorem len_at {y : Int32} (h : (Term.length a).eval args first o idx s = some (.int y)) : ∃ (x : Addr) (cell : Cell), a.eval args first o idx s = some (.ref x) ∧ s.arrayAt? x = some cell ∧ cell.slots.size < 2 ^ 31 ∧ cell.slots.size.toInt32 = y := by
  obtain ⟨b, cell, h1, h2, h3, h4⟩ := Jvm.Lib.length_spec h
  exact ⟨b, cell, h1, h2, h3, (Value.int.inj h4).symm⟩
end B
end Own
namespace Jvm.Pilot.@@N@@
open Jvm Jvm.ClassFile Sem Op Lib Jvm.Free Jvm.Stand Jvm.LawKit Jvm.RoadKit Bundle Jvm.Pilot.@@N@@.Jvm.D
def F_inv (c : Int64) : Int64 :=
  let i1 := c * (2 - c * c)
  let i2 := i1 * (2 - c * i1)
  let i3 := i2 * (2 - c * i2)
  let i4 := i3 * (2 - c * i3)
  let i5 := i4 * (2 - c * i4)
  i5 * (2 - c * i5)
def F_sh (x : Int64) (k : Int32) : Int64 := ((x).toUInt64 >>> (k &&& 0x3f).toInt64.toUInt64).toInt64
def F_mix (v : Int64) : Int64 :=
  let a := (v ^^^ F_sh v 30) * (-4658895280553007687)
  let b := (a ^^^ F_sh a 27) * (-7723592293110705685)
  b ^^^ F_sh b 31
def F_unmix (z : Int64) : Int64 :=
  let a := (z ^^^ F_sh z 31) ^^^ F_sh z 62
  let b := a * F_inv (-7723592293110705685)
  let c := (b ^^^ F_sh b 27) ^^^ F_sh b 54
  let d := c * F_inv (-4658895280553007687)
  (d ^^^ F_sh d 30) ^^^ F_sh d 60
theorem own_bits (x : BitVec 64) (k : Nat) (hk : 64 ≤ 3 * k) : ((x ^^^ (x >>> k)) ^^^ ((x ^^^ (x >>> k)) >>> k)) ^^^ ((x ^^^ (x >>> k)) >>> (2 * k)) = x := by
  apply BitVec.eq_of_getLsbD_eq
  intro i hi
  simp only [BitVec.getLsbD_xor, BitVec.getLsbD_ushiftRight]
  have h1 : x.getLsbD (k + (k + i)) = x.getLsbD (k + k + i) := by rw [Nat.add_assoc]
  have h2 : 2 * k + i = k + k + i := by omega
  have h3 : x.getLsbD (k + (k + k + i)) = false := BitVec.getLsbD_of_ge _ _ (by omega)
  rw [h2, h1, h3]
  cases x.getLsbD i <;> cases x.getLsbD (k + i) <;> cases x.getLsbD (k + k + i) <;> rfl
theorem own_sh (x : Int64) (k : Int32) (n : Nat) (h : (k &&& 0x3f).toInt64.toUInt64.toNat = n) (hn : n < 64) : (F_sh x k).toBitVec = x.toBitVec >>> n := by
  subst h
  unfold F_sh
  generalize (k &&& 0x3f).toInt64.toUInt64 = u at hn
  show (x.toUInt64 >>> u).toBitVec = _
  rw [UInt64.toBitVec_shiftRight]
  show x.toBitVec >>> (u.toBitVec % 64) = _
  rw [BitVec.ushiftRight_eq', BitVec.toNat_umod]
  congr 1
  exact Nat.mod_eq_of_lt hn
theorem own_un (x : Int64) (k j : Int32) (n : Nat) (h : (k &&& 0x3f).toInt64.toUInt64.toNat = n) (hn : n < 64) (h' : (j &&& 0x3f).toInt64.toUInt64.toNat = 2 * n) (hn' : 2 * n < 64) (h3 : 64 ≤ 3 * n) :
    ((x ^^^ F_sh x k) ^^^ F_sh (x ^^^ F_sh x k) k) ^^^ F_sh (x ^^^ F_sh x k) j = x := by
  apply Int64.toBitVec_inj.mp
  simp only [Int64.toBitVec_xor, own_sh _ k n h hn, own_sh _ j (2 * n) h' hn']
  exact own_bits _ _ h3
theorem own_mul (x : Int64) (c : Int64) (h : c * F_inv c = 1) : x * c * F_inv c = x := by
  rw [Int64.mul_assoc, h, Int64.mul_one]
theorem own_law (v : Int64) : F_unmix (F_mix v) = v := by
  unfold F_unmix F_mix
  dsimp only
  generalize ha : (v ^^^ F_sh v 30) * (-4658895280553007687) = a
  generalize hb : (a ^^^ F_sh a 27) * (-7723592293110705685) = b
  rw [own_un b 31 62 31 (by decide) (by decide) (by decide) (by decide) (by decide)]
  rw [← hb, own_mul _ _ (by decide +kernel)]
  rw [own_un a 27 54 27 (by decide) (by decide) (by decide) (by decide) (by decide)]
  rw [← ha, own_mul _ _ (by decide +kernel)]
  exact own_un v 30 60 30 (by decide) (by decide) (by decide) (by decide) (by decide)
theorem d3_0 : decode method_2_code 0 = .ok (.lload_n 0, 1) := by decide +kernel
theorem d3_1 : decode method_2_code 1 = .ok (.lstore_n 2, 1) := by decide +kernel
theorem d3_2 : decode method_2_code 2 = .ok (.lload_n 2, 1) := by decide +kernel
theorem d3_3 : decode method_2_code 3 = .ok (.ldc2_w 7, 3) := by decide +kernel
theorem d3_6 : decode method_2_code 6 = .ok (.lload_n 0, 1) := by decide +kernel
theorem d3_7 : decode method_2_code 7 = .ok (.lload_n 2, 1) := by decide +kernel
theorem d3_8 : decode method_2_code 8 = .ok (.lmul, 1) := by decide +kernel
theorem d3_9 : decode method_2_code 9 = .ok (.lsub, 1) := by decide +kernel
theorem d3_10 : decode method_2_code 10 = .ok (.lmul, 1) := by decide +kernel
theorem d3_11 : decode method_2_code 11 = .ok (.lstore_n 2, 1) := by decide +kernel
theorem d3_12 : decode method_2_code 12 = .ok (.lload_n 2, 1) := by decide +kernel
theorem d3_13 : decode method_2_code 13 = .ok (.ldc2_w 7, 3) := by decide +kernel
theorem d3_16 : decode method_2_code 16 = .ok (.lload_n 0, 1) := by decide +kernel
theorem d3_17 : decode method_2_code 17 = .ok (.lload_n 2, 1) := by decide +kernel
theorem d3_18 : decode method_2_code 18 = .ok (.lmul, 1) := by decide +kernel
theorem d3_19 : decode method_2_code 19 = .ok (.lsub, 1) := by decide +kernel
theorem d3_20 : decode method_2_code 20 = .ok (.lmul, 1) := by decide +kernel
theorem d3_21 : decode method_2_code 21 = .ok (.lstore_n 2, 1) := by decide +kernel
theorem d3_22 : decode method_2_code 22 = .ok (.lload_n 2, 1) := by decide +kernel
theorem d3_23 : decode method_2_code 23 = .ok (.ldc2_w 7, 3) := by decide +kernel
theorem d3_26 : decode method_2_code 26 = .ok (.lload_n 0, 1) := by decide +kernel
theorem d3_27 : decode method_2_code 27 = .ok (.lload_n 2, 1) := by decide +kernel
theorem d3_28 : decode method_2_code 28 = .ok (.lmul, 1) := by decide +kernel
theorem d3_29 : decode method_2_code 29 = .ok (.lsub, 1) := by decide +kernel
theorem d3_30 : decode method_2_code 30 = .ok (.lmul, 1) := by decide +kernel
theorem d3_31 : decode method_2_code 31 = .ok (.lstore_n 2, 1) := by decide +kernel
theorem d3_32 : decode method_2_code 32 = .ok (.lload_n 2, 1) := by decide +kernel
theorem d3_33 : decode method_2_code 33 = .ok (.ldc2_w 7, 3) := by decide +kernel
theorem d3_36 : decode method_2_code 36 = .ok (.lload_n 0, 1) := by decide +kernel
theorem d3_37 : decode method_2_code 37 = .ok (.lload_n 2, 1) := by decide +kernel
theorem d3_38 : decode method_2_code 38 = .ok (.lmul, 1) := by decide +kernel
theorem d3_39 : decode method_2_code 39 = .ok (.lsub, 1) := by decide +kernel
theorem d3_40 : decode method_2_code 40 = .ok (.lmul, 1) := by decide +kernel
theorem d3_41 : decode method_2_code 41 = .ok (.lstore_n 2, 1) := by decide +kernel
theorem d3_42 : decode method_2_code 42 = .ok (.lload_n 2, 1) := by decide +kernel
theorem d3_43 : decode method_2_code 43 = .ok (.ldc2_w 7, 3) := by decide +kernel
theorem d3_46 : decode method_2_code 46 = .ok (.lload_n 0, 1) := by decide +kernel
theorem d3_47 : decode method_2_code 47 = .ok (.lload_n 2, 1) := by decide +kernel
theorem d3_48 : decode method_2_code 48 = .ok (.lmul, 1) := by decide +kernel
theorem d3_49 : decode method_2_code 49 = .ok (.lsub, 1) := by decide +kernel
theorem d3_50 : decode method_2_code 50 = .ok (.lmul, 1) := by decide +kernel
theorem d3_51 : decode method_2_code 51 = .ok (.lstore_n 2, 1) := by decide +kernel
theorem d3_52 : decode method_2_code 52 = .ok (.lload_n 2, 1) := by decide +kernel
theorem d3_53 : decode method_2_code 53 = .ok (.ldc2_w 7, 3) := by decide +kernel
theorem d3_56 : decode method_2_code 56 = .ok (.lload_n 0, 1) := by decide +kernel
theorem d3_57 : decode method_2_code 57 = .ok (.lload_n 2, 1) := by decide +kernel
theorem d3_58 : decode method_2_code 58 = .ok (.lmul, 1) := by decide +kernel
theorem d3_59 : decode method_2_code 59 = .ok (.lsub, 1) := by decide +kernel
theorem d3_60 : decode method_2_code 60 = .ok (.lmul, 1) := by decide +kernel
theorem d3_61 : decode method_2_code 61 = .ok (.lstore_n 2, 1) := by decide +kernel
theorem d3_62 : decode method_2_code 62 = .ok (.lload_n 2, 1) := by decide +kernel
theorem d3_63 : decode method_2_code 63 = .ok (.lreturn, 1) := by decide +kernel
theorem pn_3 : plainName "com/example/vouchsafe/vouchsafe/job/StreamsMixPinLaw" = true := by first | (simp [plainName, overriddenIn]; done) | decide +kernel
theorem ef_3 (m : MethodId) (q1 : Int64) : entryFrame m #[(.long q1)] 4 = mkF m 0 #[.val (.long q1), .second, .unset, .unset] [] := by first | (simp [entryFrame, mkF, argsToLocals, Value.category]; done) | rfl
def Q3 (Z : State) (q1 : Int64)  (h0 : Heap) (n0 : Nat) : Option Value → Heap → List Loc → Prop := fun v h L => v = some (.long (F_inv q1)) ∧ Fr n0 L ∧ h = h0
set_option maxRecDepth 65536 in
set_option maxHeartbeats 40000000 in
theorem rm3 (l : Launch) (Z : State) (a0 : Array Value) (hw : ∀ d ∈ tables_1, d.before a0 Z = true) (ws : List Jvm.Cond) (q1 : Int64)  (h0 : Heap) (n0 : Nat) (Z0 : n0 ≤ h0.size)  :
    MetFree l (⟨"com/example/vouchsafe/vouchsafe/job/StreamsMixPinLaw", "inverse", "(J)J"⟩ : MethodName) (head1 (Jvm.Cond.code (⟨"com/example/vouchsafe/vouchsafe/job/StreamsMixPinLaw", "inverse", "(J)J"⟩ : MethodName) method_2_code 4 (some .long) :: ws) ({ frames := 0, cells := 0, slots := 0, locals := 0 } : Room)) (fun a U => a = #[(.long q1)] ∧ Z.Warmed39 U.vm ∧ U.heap = h0) (fun _ _ _ _ _ => True) (fun _ U o U' => ∃ v L, o = .returned v ∧ (Q3 Z q1 h0 n0) v U'.heap L ∧ FrameEnd U o U' L ({ frames := 0, cells := 0, slots := 0, locals := 0 } : Room).cells ({ frames := 0, cells := 0, slots := 0, locals := 0 } : Room).slots) := by
  refine MetFree.of_bodySF (plainFor_of_name pn_3) hisR ?_
  intro p e s m args below meth c s₁ Bd hml0 hP hK
  obtain ⟨rfl, hZ, hh⟩ := hP
  have hx := Bd.exec
  have hby := Bd.bytes
  have hml : c.maxLocals = 4 := hml0
  have hown : s.vm.findClass "com/example/vouchsafe/vouchsafe/job/StreamsMixPinLaw" = some m.cls := findClass_of_methodNamed Bd.named
  have hnm := (name_of_methodNamed Bd.named Bd.method).1
  have X0 : Stand p l e ({ frames := 0, cells := 0, slots := 0, locals := 0 } : Room) s m #[(.long q1)] below meth c s₁ [] 0 0 := Stand.of_body Bd
  have e0 : s₁.heap = h0 := by rw [← hh, Bd.state]; rfl
  have N0 := Fr.nil n0
  show Own.Fin p e below _ (Own.Post s (Q3 Z q1 h0 n0) ({ frames := 0, cells := 0, slots := 0, locals := 0 } : Room).cells ({ frames := 0, cells := 0, slots := 0, locals := 0 } : Room).slots)
  refine Own.start (ef_3 m q1) ?_
  show Own.Fin p e below (s₁.setTop (mkF m 0 #[.val (.long q1), .second, .unset, .unset] [])) _
  refine Own.go (fun t k => XS.lloadN X0.here hx rfl (hb hby d3_0) rfl k) ?_
  show Own.Fin p e below (s₁.setTop (mkF m 1 #[.val (.long q1), .second, .unset, .unset] [(.long q1)])) _
  refine Own.go (fun t k => XS.lstoreN X0.here hx rfl (hb hby d3_1) rfl (l' := #[.val (.long q1), .second, .val (.long q1), .second]) rfl k) ?_
  show Own.Fin p e below (s₁.setTop (mkF m 2 #[.val (.long q1), .second, .val (.long q1), .second] [])) _
  refine Own.go (fun t k => XS.lloadN X0.here hx rfl (hb hby d3_2) rfl k) ?_
  show Own.Fin p e below (s₁.setTop (mkF m 3 #[.val (.long q1), .second, .val (.long q1), .second] [(.long q1)])) _
  refine Own.go (fun t k => X0.ldc2Long hx hown (mvT hZ (hw _ (List.mem_of_getElem? (i := 14) rfl))) (g := (mkF m 3 #[.val (.long q1), .second, .val (.long q1), .second] [(.long q1)])) rfl (hb hby d3_3) _ k) ?_
  show Own.Fin p e below (s₁.setTop (mkF m 6 #[.val (.long q1), .second, .val (.long q1), .second] [(.long (2 : Int64)), (.long q1)])) _
  refine Own.go (fun t k => XS.lloadN X0.here hx rfl (hb hby d3_6) rfl k) ?_
  show Own.Fin p e below (s₁.setTop (mkF m 7 #[.val (.long q1), .second, .val (.long q1), .second] [(.long q1), (.long (2 : Int64)), (.long q1)])) _
  refine Own.go (fun t k => XS.lloadN X0.here hx rfl (hb hby d3_7) rfl k) ?_
  show Own.Fin p e below (s₁.setTop (mkF m 8 #[.val (.long q1), .second, .val (.long q1), .second] [(.long q1), (.long q1), (.long (2 : Int64)), (.long q1)])) _
  refine Own.go (fun t k => XS.lmul X0.here hx rfl (hb hby d3_8) rfl k) ?_
  show Own.Fin p e below (s₁.setTop (mkF m 9 #[.val (.long q1), .second, .val (.long q1), .second] [(.long (q1 * q1)), (.long (2 : Int64)), (.long q1)])) _
  refine Own.go (fun t k => XS.lsub X0.here hx rfl (hb hby d3_9) rfl k) ?_
  show Own.Fin p e below (s₁.setTop (mkF m 10 #[.val (.long q1), .second, .val (.long q1), .second] [(.long ((2 : Int64) - (q1 * q1))), (.long q1)])) _
  refine Own.go (fun t k => XS.lmul X0.here hx rfl (hb hby d3_10) rfl k) ?_
  show Own.Fin p e below (s₁.setTop (mkF m 11 #[.val (.long q1), .second, .val (.long q1), .second] [(.long (q1 * ((2 : Int64) - (q1 * q1))))])) _
  generalize hv1 : (q1 * ((2 : Int64) - (q1 * q1))) = v1
  refine Own.go (fun t k => XS.lstoreN X0.here hx rfl (hb hby d3_11) rfl (l' := #[.val (.long q1), .second, .val (.long v1), .second]) rfl k) ?_
  show Own.Fin p e below (s₁.setTop (mkF m 12 #[.val (.long q1), .second, .val (.long v1), .second] [])) _
  refine Own.go (fun t k => XS.lloadN X0.here hx rfl (hb hby d3_12) rfl k) ?_
  show Own.Fin p e below (s₁.setTop (mkF m 13 #[.val (.long q1), .second, .val (.long v1), .second] [(.long v1)])) _
  refine Own.go (fun t k => X0.ldc2Long hx hown (mvT hZ (hw _ (List.mem_of_getElem? (i := 14) rfl))) (g := (mkF m 13 #[.val (.long q1), .second, .val (.long v1), .second] [(.long v1)])) rfl (hb hby d3_13) _ k) ?_
  show Own.Fin p e below (s₁.setTop (mkF m 16 #[.val (.long q1), .second, .val (.long v1), .second] [(.long (2 : Int64)), (.long v1)])) _
  refine Own.go (fun t k => XS.lloadN X0.here hx rfl (hb hby d3_16) rfl k) ?_
  show Own.Fin p e below (s₁.setTop (mkF m 17 #[.val (.long q1), .second, .val (.long v1), .second] [(.long q1), (.long (2 : Int64)), (.long v1)])) _
  refine Own.go (fun t k => XS.lloadN X0.here hx rfl (hb hby d3_17) rfl k) ?_
  show Own.Fin p e below (s₁.setTop (mkF m 18 #[.val (.long q1), .second, .val (.long v1), .second] [(.long v1), (.long q1), (.long (2 : Int64)), (.long v1)])) _
  refine Own.go (fun t k => XS.lmul X0.here hx rfl (hb hby d3_18) rfl k) ?_
  show Own.Fin p e below (s₁.setTop (mkF m 19 #[.val (.long q1), .second, .val (.long v1), .second] [(.long (q1 * v1)), (.long (2 : Int64)), (.long v1)])) _
  refine Own.go (fun t k => XS.lsub X0.here hx rfl (hb hby d3_19) rfl k) ?_
  show Own.Fin p e below (s₁.setTop (mkF m 20 #[.val (.long q1), .second, .val (.long v1), .second] [(.long ((2 : Int64) - (q1 * v1))), (.long v1)])) _
  refine Own.go (fun t k => XS.lmul X0.here hx rfl (hb hby d3_20) rfl k) ?_
  show Own.Fin p e below (s₁.setTop (mkF m 21 #[.val (.long q1), .second, .val (.long v1), .second] [(.long (v1 * ((2 : Int64) - (q1 * v1))))])) _
  generalize hv2 : (v1 * ((2 : Int64) - (q1 * v1))) = v2
  refine Own.go (fun t k => XS.lstoreN X0.here hx rfl (hb hby d3_21) rfl (l' := #[.val (.long q1), .second, .val (.long v2), .second]) rfl k) ?_
  show Own.Fin p e below (s₁.setTop (mkF m 22 #[.val (.long q1), .second, .val (.long v2), .second] [])) _
  refine Own.go (fun t k => XS.lloadN X0.here hx rfl (hb hby d3_22) rfl k) ?_
  show Own.Fin p e below (s₁.setTop (mkF m 23 #[.val (.long q1), .second, .val (.long v2), .second] [(.long v2)])) _
  refine Own.go (fun t k => X0.ldc2Long hx hown (mvT hZ (hw _ (List.mem_of_getElem? (i := 14) rfl))) (g := (mkF m 23 #[.val (.long q1), .second, .val (.long v2), .second] [(.long v2)])) rfl (hb hby d3_23) _ k) ?_
  show Own.Fin p e below (s₁.setTop (mkF m 26 #[.val (.long q1), .second, .val (.long v2), .second] [(.long (2 : Int64)), (.long v2)])) _
  refine Own.go (fun t k => XS.lloadN X0.here hx rfl (hb hby d3_26) rfl k) ?_
  show Own.Fin p e below (s₁.setTop (mkF m 27 #[.val (.long q1), .second, .val (.long v2), .second] [(.long q1), (.long (2 : Int64)), (.long v2)])) _
  refine Own.go (fun t k => XS.lloadN X0.here hx rfl (hb hby d3_27) rfl k) ?_
  show Own.Fin p e below (s₁.setTop (mkF m 28 #[.val (.long q1), .second, .val (.long v2), .second] [(.long v2), (.long q1), (.long (2 : Int64)), (.long v2)])) _
  refine Own.go (fun t k => XS.lmul X0.here hx rfl (hb hby d3_28) rfl k) ?_
  show Own.Fin p e below (s₁.setTop (mkF m 29 #[.val (.long q1), .second, .val (.long v2), .second] [(.long (q1 * v2)), (.long (2 : Int64)), (.long v2)])) _
  refine Own.go (fun t k => XS.lsub X0.here hx rfl (hb hby d3_29) rfl k) ?_
  show Own.Fin p e below (s₁.setTop (mkF m 30 #[.val (.long q1), .second, .val (.long v2), .second] [(.long ((2 : Int64) - (q1 * v2))), (.long v2)])) _
  refine Own.go (fun t k => XS.lmul X0.here hx rfl (hb hby d3_30) rfl k) ?_
  show Own.Fin p e below (s₁.setTop (mkF m 31 #[.val (.long q1), .second, .val (.long v2), .second] [(.long (v2 * ((2 : Int64) - (q1 * v2))))])) _
  generalize hv3 : (v2 * ((2 : Int64) - (q1 * v2))) = v3
  refine Own.go (fun t k => XS.lstoreN X0.here hx rfl (hb hby d3_31) rfl (l' := #[.val (.long q1), .second, .val (.long v3), .second]) rfl k) ?_
  show Own.Fin p e below (s₁.setTop (mkF m 32 #[.val (.long q1), .second, .val (.long v3), .second] [])) _
  refine Own.go (fun t k => XS.lloadN X0.here hx rfl (hb hby d3_32) rfl k) ?_
  show Own.Fin p e below (s₁.setTop (mkF m 33 #[.val (.long q1), .second, .val (.long v3), .second] [(.long v3)])) _
  refine Own.go (fun t k => X0.ldc2Long hx hown (mvT hZ (hw _ (List.mem_of_getElem? (i := 14) rfl))) (g := (mkF m 33 #[.val (.long q1), .second, .val (.long v3), .second] [(.long v3)])) rfl (hb hby d3_33) _ k) ?_
  show Own.Fin p e below (s₁.setTop (mkF m 36 #[.val (.long q1), .second, .val (.long v3), .second] [(.long (2 : Int64)), (.long v3)])) _
  refine Own.go (fun t k => XS.lloadN X0.here hx rfl (hb hby d3_36) rfl k) ?_
  show Own.Fin p e below (s₁.setTop (mkF m 37 #[.val (.long q1), .second, .val (.long v3), .second] [(.long q1), (.long (2 : Int64)), (.long v3)])) _
  refine Own.go (fun t k => XS.lloadN X0.here hx rfl (hb hby d3_37) rfl k) ?_
  show Own.Fin p e below (s₁.setTop (mkF m 38 #[.val (.long q1), .second, .val (.long v3), .second] [(.long v3), (.long q1), (.long (2 : Int64)), (.long v3)])) _
  refine Own.go (fun t k => XS.lmul X0.here hx rfl (hb hby d3_38) rfl k) ?_
  show Own.Fin p e below (s₁.setTop (mkF m 39 #[.val (.long q1), .second, .val (.long v3), .second] [(.long (q1 * v3)), (.long (2 : Int64)), (.long v3)])) _
  refine Own.go (fun t k => XS.lsub X0.here hx rfl (hb hby d3_39) rfl k) ?_
  show Own.Fin p e below (s₁.setTop (mkF m 40 #[.val (.long q1), .second, .val (.long v3), .second] [(.long ((2 : Int64) - (q1 * v3))), (.long v3)])) _
  refine Own.go (fun t k => XS.lmul X0.here hx rfl (hb hby d3_40) rfl k) ?_
  show Own.Fin p e below (s₁.setTop (mkF m 41 #[.val (.long q1), .second, .val (.long v3), .second] [(.long (v3 * ((2 : Int64) - (q1 * v3))))])) _
  generalize hv4 : (v3 * ((2 : Int64) - (q1 * v3))) = v4
  refine Own.go (fun t k => XS.lstoreN X0.here hx rfl (hb hby d3_41) rfl (l' := #[.val (.long q1), .second, .val (.long v4), .second]) rfl k) ?_
  show Own.Fin p e below (s₁.setTop (mkF m 42 #[.val (.long q1), .second, .val (.long v4), .second] [])) _
  refine Own.go (fun t k => XS.lloadN X0.here hx rfl (hb hby d3_42) rfl k) ?_
  show Own.Fin p e below (s₁.setTop (mkF m 43 #[.val (.long q1), .second, .val (.long v4), .second] [(.long v4)])) _
  refine Own.go (fun t k => X0.ldc2Long hx hown (mvT hZ (hw _ (List.mem_of_getElem? (i := 14) rfl))) (g := (mkF m 43 #[.val (.long q1), .second, .val (.long v4), .second] [(.long v4)])) rfl (hb hby d3_43) _ k) ?_
  show Own.Fin p e below (s₁.setTop (mkF m 46 #[.val (.long q1), .second, .val (.long v4), .second] [(.long (2 : Int64)), (.long v4)])) _
  refine Own.go (fun t k => XS.lloadN X0.here hx rfl (hb hby d3_46) rfl k) ?_
  show Own.Fin p e below (s₁.setTop (mkF m 47 #[.val (.long q1), .second, .val (.long v4), .second] [(.long q1), (.long (2 : Int64)), (.long v4)])) _
  refine Own.go (fun t k => XS.lloadN X0.here hx rfl (hb hby d3_47) rfl k) ?_
  show Own.Fin p e below (s₁.setTop (mkF m 48 #[.val (.long q1), .second, .val (.long v4), .second] [(.long v4), (.long q1), (.long (2 : Int64)), (.long v4)])) _
  refine Own.go (fun t k => XS.lmul X0.here hx rfl (hb hby d3_48) rfl k) ?_
  show Own.Fin p e below (s₁.setTop (mkF m 49 #[.val (.long q1), .second, .val (.long v4), .second] [(.long (q1 * v4)), (.long (2 : Int64)), (.long v4)])) _
  refine Own.go (fun t k => XS.lsub X0.here hx rfl (hb hby d3_49) rfl k) ?_
  show Own.Fin p e below (s₁.setTop (mkF m 50 #[.val (.long q1), .second, .val (.long v4), .second] [(.long ((2 : Int64) - (q1 * v4))), (.long v4)])) _
  refine Own.go (fun t k => XS.lmul X0.here hx rfl (hb hby d3_50) rfl k) ?_
  show Own.Fin p e below (s₁.setTop (mkF m 51 #[.val (.long q1), .second, .val (.long v4), .second] [(.long (v4 * ((2 : Int64) - (q1 * v4))))])) _
  generalize hv5 : (v4 * ((2 : Int64) - (q1 * v4))) = v5
  refine Own.go (fun t k => XS.lstoreN X0.here hx rfl (hb hby d3_51) rfl (l' := #[.val (.long q1), .second, .val (.long v5), .second]) rfl k) ?_
  show Own.Fin p e below (s₁.setTop (mkF m 52 #[.val (.long q1), .second, .val (.long v5), .second] [])) _
  refine Own.go (fun t k => XS.lloadN X0.here hx rfl (hb hby d3_52) rfl k) ?_
  show Own.Fin p e below (s₁.setTop (mkF m 53 #[.val (.long q1), .second, .val (.long v5), .second] [(.long v5)])) _
  refine Own.go (fun t k => X0.ldc2Long hx hown (mvT hZ (hw _ (List.mem_of_getElem? (i := 14) rfl))) (g := (mkF m 53 #[.val (.long q1), .second, .val (.long v5), .second] [(.long v5)])) rfl (hb hby d3_53) _ k) ?_
  show Own.Fin p e below (s₁.setTop (mkF m 56 #[.val (.long q1), .second, .val (.long v5), .second] [(.long (2 : Int64)), (.long v5)])) _
  refine Own.go (fun t k => XS.lloadN X0.here hx rfl (hb hby d3_56) rfl k) ?_
  show Own.Fin p e below (s₁.setTop (mkF m 57 #[.val (.long q1), .second, .val (.long v5), .second] [(.long q1), (.long (2 : Int64)), (.long v5)])) _
  refine Own.go (fun t k => XS.lloadN X0.here hx rfl (hb hby d3_57) rfl k) ?_
  show Own.Fin p e below (s₁.setTop (mkF m 58 #[.val (.long q1), .second, .val (.long v5), .second] [(.long v5), (.long q1), (.long (2 : Int64)), (.long v5)])) _
  refine Own.go (fun t k => XS.lmul X0.here hx rfl (hb hby d3_58) rfl k) ?_
  show Own.Fin p e below (s₁.setTop (mkF m 59 #[.val (.long q1), .second, .val (.long v5), .second] [(.long (q1 * v5)), (.long (2 : Int64)), (.long v5)])) _
  refine Own.go (fun t k => XS.lsub X0.here hx rfl (hb hby d3_59) rfl k) ?_
  show Own.Fin p e below (s₁.setTop (mkF m 60 #[.val (.long q1), .second, .val (.long v5), .second] [(.long ((2 : Int64) - (q1 * v5))), (.long v5)])) _
  refine Own.go (fun t k => XS.lmul X0.here hx rfl (hb hby d3_60) rfl k) ?_
  show Own.Fin p e below (s₁.setTop (mkF m 61 #[.val (.long q1), .second, .val (.long v5), .second] [(.long (v5 * ((2 : Int64) - (q1 * v5))))])) _
  generalize hv6 : (v5 * ((2 : Int64) - (q1 * v5))) = v6
  refine Own.go (fun t k => XS.lstoreN X0.here hx rfl (hb hby d3_61) rfl (l' := #[.val (.long q1), .second, .val (.long v6), .second]) rfl k) ?_
  show Own.Fin p e below (s₁.setTop (mkF m 62 #[.val (.long q1), .second, .val (.long v6), .second] [])) _
  refine Own.go (fun t k => XS.lloadN X0.here hx rfl (hb hby d3_62) rfl k) ?_
  show Own.Fin p e below (s₁.setTop (mkF m 63 #[.val (.long q1), .second, .val (.long v6), .second] [(.long v6)])) _
  refine Own.retJ X0 hx Bd.notSynchronized Bd.returns (hb hby d3_63) (by decide) (by decide) ?_
  exact ⟨by subst hv6 hv5 hv4 hv3 hv2 hv1; rfl, N0, e0⟩
theorem d1_0 : decode prog_69_method_3_code 0 = .ok (.lload_n 0, 1) := by decide +kernel
theorem d1_1 : decode prog_69_method_3_code 1 = .ok (.lload_n 0, 1) := by decide +kernel
theorem d1_2 : decode prog_69_method_3_code 2 = .ok (.bipush 30, 2) := by decide +kernel
theorem d1_4 : decode prog_69_method_3_code 4 = .ok (.lushr, 1) := by decide +kernel
theorem d1_5 : decode prog_69_method_3_code 5 = .ok (.lxor, 1) := by decide +kernel
theorem d1_6 : decode prog_69_method_3_code 6 = .ok (.ldc2_w 18, 3) := by decide +kernel
theorem d1_9 : decode prog_69_method_3_code 9 = .ok (.lmul, 1) := by decide +kernel
theorem d1_10 : decode prog_69_method_3_code 10 = .ok (.lstore_n 2, 1) := by decide +kernel
theorem d1_11 : decode prog_69_method_3_code 11 = .ok (.lload_n 2, 1) := by decide +kernel
theorem d1_12 : decode prog_69_method_3_code 12 = .ok (.lload_n 2, 1) := by decide +kernel
theorem d1_13 : decode prog_69_method_3_code 13 = .ok (.bipush 27, 2) := by decide +kernel
theorem d1_15 : decode prog_69_method_3_code 15 = .ok (.lushr, 1) := by decide +kernel
theorem d1_16 : decode prog_69_method_3_code 16 = .ok (.lxor, 1) := by decide +kernel
theorem d1_17 : decode prog_69_method_3_code 17 = .ok (.ldc2_w 20, 3) := by decide +kernel
theorem d1_20 : decode prog_69_method_3_code 20 = .ok (.lmul, 1) := by decide +kernel
theorem d1_21 : decode prog_69_method_3_code 21 = .ok (.lstore_n 2, 1) := by decide +kernel
theorem d1_22 : decode prog_69_method_3_code 22 = .ok (.lload_n 2, 1) := by decide +kernel
theorem d1_23 : decode prog_69_method_3_code 23 = .ok (.lload_n 2, 1) := by decide +kernel
theorem d1_24 : decode prog_69_method_3_code 24 = .ok (.bipush 31, 2) := by decide +kernel
theorem d1_26 : decode prog_69_method_3_code 26 = .ok (.lushr, 1) := by decide +kernel
theorem d1_27 : decode prog_69_method_3_code 27 = .ok (.lxor, 1) := by decide +kernel
theorem d1_28 : decode prog_69_method_3_code 28 = .ok (.lreturn, 1) := by decide +kernel
theorem pn_1 : plainName "com/example/vouchsafe/vouchsafe/job/Streams" = true := by first | (simp [plainName, overriddenIn]; done) | decide +kernel
theorem ef_1 (m : MethodId) (q1 : Int64) : entryFrame m #[(.long q1)] 4 = mkF m 0 #[.val (.long q1), .second, .unset, .unset] [] := by first | (simp [entryFrame, mkF, argsToLocals, Value.category]; done) | rfl
def Q1 (Z : State) (q1 : Int64)  (h0 : Heap) (n0 : Nat) : Option Value → Heap → List Loc → Prop := fun v h L => v = some (.long (F_mix q1)) ∧ Fr n0 L ∧ h = h0
set_option maxRecDepth 65536 in
set_option maxHeartbeats 40000000 in
theorem rm1 (l : Launch) (Z : State) (a0 : Array Value) (hw : ∀ d ∈ tables_1, d.before a0 Z = true) (ws : List Jvm.Cond) (q1 : Int64)  (h0 : Heap) (n0 : Nat) (Z0 : n0 ≤ h0.size)  :
    MetFree l (⟨"com/example/vouchsafe/vouchsafe/job/Streams", "mix", "(J)J"⟩ : MethodName) (head1 (Jvm.Cond.code (⟨"com/example/vouchsafe/vouchsafe/job/Streams", "mix", "(J)J"⟩ : MethodName) prog_69_method_3_code 4 (some .long) :: ws) ({ frames := 0, cells := 0, slots := 0, locals := 0 } : Room)) (fun a U => a = #[(.long q1)] ∧ Z.Warmed39 U.vm ∧ U.heap = h0) (fun _ _ _ _ _ => True) (fun _ U o U' => ∃ v L, o = .returned v ∧ (Q1 Z q1 h0 n0) v U'.heap L ∧ FrameEnd U o U' L ({ frames := 0, cells := 0, slots := 0, locals := 0 } : Room).cells ({ frames := 0, cells := 0, slots := 0, locals := 0 } : Room).slots) := by
  refine MetFree.of_bodySF (plainFor_of_name pn_1) hisR ?_
  intro p e s m args below meth c s₁ Bd hml0 hP hK
  obtain ⟨rfl, hZ, hh⟩ := hP
  have hx := Bd.exec
  have hby := Bd.bytes
  have hml : c.maxLocals = 4 := hml0
  have hown : s.vm.findClass "com/example/vouchsafe/vouchsafe/job/Streams" = some m.cls := findClass_of_methodNamed Bd.named
  have hnm := (name_of_methodNamed Bd.named Bd.method).1
  have X0 : Stand p l e ({ frames := 0, cells := 0, slots := 0, locals := 0 } : Room) s m #[(.long q1)] below meth c s₁ [] 0 0 := Stand.of_body Bd
  have e0 : s₁.heap = h0 := by rw [← hh, Bd.state]; rfl
  have N0 := Fr.nil n0
  show Own.Fin p e below _ (Own.Post s (Q1 Z q1 h0 n0) ({ frames := 0, cells := 0, slots := 0, locals := 0 } : Room).cells ({ frames := 0, cells := 0, slots := 0, locals := 0 } : Room).slots)
  refine Own.start (ef_1 m q1) ?_
  show Own.Fin p e below (s₁.setTop (mkF m 0 #[.val (.long q1), .second, .unset, .unset] [])) _
  refine Own.go (fun t k => XS.lloadN X0.here hx rfl (hb hby d1_0) rfl k) ?_
  show Own.Fin p e below (s₁.setTop (mkF m 1 #[.val (.long q1), .second, .unset, .unset] [(.long q1)])) _
  refine Own.go (fun t k => XS.lloadN X0.here hx rfl (hb hby d1_1) rfl k) ?_
  show Own.Fin p e below (s₁.setTop (mkF m 2 #[.val (.long q1), .second, .unset, .unset] [(.long q1), (.long q1)])) _
  refine Own.go (fun t k => XS.bipush X0.here hx rfl (hb hby d1_2) k) ?_
  show Own.Fin p e below (s₁.setTop (mkF m 4 #[.val (.long q1), .second, .unset, .unset] [(.int (30 : Int32)), (.long q1), (.long q1)])) _
  refine Own.go (fun t k => XS.lushr X0.here hx rfl (hb hby d1_4) rfl k) ?_
  show Own.Fin p e below (s₁.setTop (mkF m 5 #[.val (.long q1), .second, .unset, .unset] [(.long (((q1).toUInt64 >>> ((30 : Int32) &&& 0x3f).toInt64.toUInt64).toInt64)), (.long q1)])) _
  refine Own.go (fun t k => XS.lxor X0.here hx rfl (hb hby d1_5) rfl k) ?_
  show Own.Fin p e below (s₁.setTop (mkF m 6 #[.val (.long q1), .second, .unset, .unset] [(.long (q1 ^^^ (((q1).toUInt64 >>> ((30 : Int32) &&& 0x3f).toInt64.toUInt64).toInt64)))])) _
  refine Own.go (fun t k => X0.ldc2Long hx hown (mvT hZ (hw _ (List.mem_of_getElem? (i := 4) rfl))) (g := (mkF m 6 #[.val (.long q1), .second, .unset, .unset] [(.long (q1 ^^^ (((q1).toUInt64 >>> ((30 : Int32) &&& 0x3f).toInt64.toUInt64).toInt64)))])) rfl (hb hby d1_6) _ k) ?_
  show Own.Fin p e below (s₁.setTop (mkF m 9 #[.val (.long q1), .second, .unset, .unset] [(.long (-4658895280553007687 : Int64)), (.long (q1 ^^^ (((q1).toUInt64 >>> ((30 : Int32) &&& 0x3f).toInt64.toUInt64).toInt64)))])) _
  refine Own.go (fun t k => XS.lmul X0.here hx rfl (hb hby d1_9) rfl k) ?_
  show Own.Fin p e below (s₁.setTop (mkF m 10 #[.val (.long q1), .second, .unset, .unset] [(.long ((q1 ^^^ (((q1).toUInt64 >>> ((30 : Int32) &&& 0x3f).toInt64.toUInt64).toInt64)) * (-4658895280553007687 : Int64)))])) _
  generalize hv1 : ((q1 ^^^ (((q1).toUInt64 >>> ((30 : Int32) &&& 0x3f).toInt64.toUInt64).toInt64)) * (-4658895280553007687 : Int64)) = v1
  refine Own.go (fun t k => XS.lstoreN X0.here hx rfl (hb hby d1_10) rfl (l' := #[.val (.long q1), .second, .val (.long v1), .second]) rfl k) ?_
  show Own.Fin p e below (s₁.setTop (mkF m 11 #[.val (.long q1), .second, .val (.long v1), .second] [])) _
  refine Own.go (fun t k => XS.lloadN X0.here hx rfl (hb hby d1_11) rfl k) ?_
  show Own.Fin p e below (s₁.setTop (mkF m 12 #[.val (.long q1), .second, .val (.long v1), .second] [(.long v1)])) _
  refine Own.go (fun t k => XS.lloadN X0.here hx rfl (hb hby d1_12) rfl k) ?_
  show Own.Fin p e below (s₁.setTop (mkF m 13 #[.val (.long q1), .second, .val (.long v1), .second] [(.long v1), (.long v1)])) _
  refine Own.go (fun t k => XS.bipush X0.here hx rfl (hb hby d1_13) k) ?_
  show Own.Fin p e below (s₁.setTop (mkF m 15 #[.val (.long q1), .second, .val (.long v1), .second] [(.int (27 : Int32)), (.long v1), (.long v1)])) _
  refine Own.go (fun t k => XS.lushr X0.here hx rfl (hb hby d1_15) rfl k) ?_
  show Own.Fin p e below (s₁.setTop (mkF m 16 #[.val (.long q1), .second, .val (.long v1), .second] [(.long (((v1).toUInt64 >>> ((27 : Int32) &&& 0x3f).toInt64.toUInt64).toInt64)), (.long v1)])) _
  refine Own.go (fun t k => XS.lxor X0.here hx rfl (hb hby d1_16) rfl k) ?_
  show Own.Fin p e below (s₁.setTop (mkF m 17 #[.val (.long q1), .second, .val (.long v1), .second] [(.long (v1 ^^^ (((v1).toUInt64 >>> ((27 : Int32) &&& 0x3f).toInt64.toUInt64).toInt64)))])) _
  refine Own.go (fun t k => X0.ldc2Long hx hown (mvT hZ (hw _ (List.mem_of_getElem? (i := 5) rfl))) (g := (mkF m 17 #[.val (.long q1), .second, .val (.long v1), .second] [(.long (v1 ^^^ (((v1).toUInt64 >>> ((27 : Int32) &&& 0x3f).toInt64.toUInt64).toInt64)))])) rfl (hb hby d1_17) _ k) ?_
  show Own.Fin p e below (s₁.setTop (mkF m 20 #[.val (.long q1), .second, .val (.long v1), .second] [(.long (-7723592293110705685 : Int64)), (.long (v1 ^^^ (((v1).toUInt64 >>> ((27 : Int32) &&& 0x3f).toInt64.toUInt64).toInt64)))])) _
  refine Own.go (fun t k => XS.lmul X0.here hx rfl (hb hby d1_20) rfl k) ?_
  show Own.Fin p e below (s₁.setTop (mkF m 21 #[.val (.long q1), .second, .val (.long v1), .second] [(.long ((v1 ^^^ (((v1).toUInt64 >>> ((27 : Int32) &&& 0x3f).toInt64.toUInt64).toInt64)) * (-7723592293110705685 : Int64)))])) _
  generalize hv2 : ((v1 ^^^ (((v1).toUInt64 >>> ((27 : Int32) &&& 0x3f).toInt64.toUInt64).toInt64)) * (-7723592293110705685 : Int64)) = v2
  refine Own.go (fun t k => XS.lstoreN X0.here hx rfl (hb hby d1_21) rfl (l' := #[.val (.long q1), .second, .val (.long v2), .second]) rfl k) ?_
  show Own.Fin p e below (s₁.setTop (mkF m 22 #[.val (.long q1), .second, .val (.long v2), .second] [])) _
  refine Own.go (fun t k => XS.lloadN X0.here hx rfl (hb hby d1_22) rfl k) ?_
  show Own.Fin p e below (s₁.setTop (mkF m 23 #[.val (.long q1), .second, .val (.long v2), .second] [(.long v2)])) _
  refine Own.go (fun t k => XS.lloadN X0.here hx rfl (hb hby d1_23) rfl k) ?_
  show Own.Fin p e below (s₁.setTop (mkF m 24 #[.val (.long q1), .second, .val (.long v2), .second] [(.long v2), (.long v2)])) _
  refine Own.go (fun t k => XS.bipush X0.here hx rfl (hb hby d1_24) k) ?_
  show Own.Fin p e below (s₁.setTop (mkF m 26 #[.val (.long q1), .second, .val (.long v2), .second] [(.int (31 : Int32)), (.long v2), (.long v2)])) _
  refine Own.go (fun t k => XS.lushr X0.here hx rfl (hb hby d1_26) rfl k) ?_
  show Own.Fin p e below (s₁.setTop (mkF m 27 #[.val (.long q1), .second, .val (.long v2), .second] [(.long (((v2).toUInt64 >>> ((31 : Int32) &&& 0x3f).toInt64.toUInt64).toInt64)), (.long v2)])) _
  refine Own.go (fun t k => XS.lxor X0.here hx rfl (hb hby d1_27) rfl k) ?_
  show Own.Fin p e below (s₁.setTop (mkF m 28 #[.val (.long q1), .second, .val (.long v2), .second] [(.long (v2 ^^^ (((v2).toUInt64 >>> ((31 : Int32) &&& 0x3f).toInt64.toUInt64).toInt64)))])) _
  refine Own.retJ X0 hx Bd.notSynchronized Bd.returns (hb hby d1_28) (by decide) (by decide) ?_
  exact ⟨by subst hv2 hv1; rfl, N0, e0⟩
theorem d2_0 : decode method_3_code 0 = .ok (.lload_n 0, 1) := by decide +kernel
theorem d2_1 : decode method_3_code 1 = .ok (.lload_n 0, 1) := by decide +kernel
theorem d2_2 : decode method_3_code 2 = .ok (.bipush 31, 2) := by decide +kernel
theorem d2_4 : decode method_3_code 4 = .ok (.lushr, 1) := by decide +kernel
theorem d2_5 : decode method_3_code 5 = .ok (.lxor, 1) := by decide +kernel
theorem d2_6 : decode method_3_code 6 = .ok (.lload_n 0, 1) := by decide +kernel
theorem d2_7 : decode method_3_code 7 = .ok (.bipush 62, 2) := by decide +kernel
theorem d2_9 : decode method_3_code 9 = .ok (.lushr, 1) := by decide +kernel
theorem d2_10 : decode method_3_code 10 = .ok (.lxor, 1) := by decide +kernel
theorem d2_11 : decode method_3_code 11 = .ok (.lstore_n 2, 1) := by decide +kernel
theorem d2_12 : decode method_3_code 12 = .ok (.lload_n 2, 1) := by decide +kernel
theorem d2_13 : decode method_3_code 13 = .ok (.ldc2_w 9, 3) := by decide +kernel
theorem d2_16 : decode method_3_code 16 = .ok (.invokestatic 11, 3) := by decide +kernel
theorem d2_19 : decode method_3_code 19 = .ok (.lmul, 1) := by decide +kernel
theorem d2_20 : decode method_3_code 20 = .ok (.lstore_n 2, 1) := by decide +kernel
theorem d2_21 : decode method_3_code 21 = .ok (.lload_n 2, 1) := by decide +kernel
theorem d2_22 : decode method_3_code 22 = .ok (.lload_n 2, 1) := by decide +kernel
theorem d2_23 : decode method_3_code 23 = .ok (.bipush 27, 2) := by decide +kernel
theorem d2_25 : decode method_3_code 25 = .ok (.lushr, 1) := by decide +kernel
theorem d2_26 : decode method_3_code 26 = .ok (.lxor, 1) := by decide +kernel
theorem d2_27 : decode method_3_code 27 = .ok (.lload_n 2, 1) := by decide +kernel
theorem d2_28 : decode method_3_code 28 = .ok (.bipush 54, 2) := by decide +kernel
theorem d2_30 : decode method_3_code 30 = .ok (.lushr, 1) := by decide +kernel
theorem d2_31 : decode method_3_code 31 = .ok (.lxor, 1) := by decide +kernel
theorem d2_32 : decode method_3_code 32 = .ok (.lstore_n 2, 1) := by decide +kernel
theorem d2_33 : decode method_3_code 33 = .ok (.lload_n 2, 1) := by decide +kernel
theorem d2_34 : decode method_3_code 34 = .ok (.ldc2_w 17, 3) := by decide +kernel
theorem d2_37 : decode method_3_code 37 = .ok (.invokestatic 11, 3) := by decide +kernel
theorem d2_40 : decode method_3_code 40 = .ok (.lmul, 1) := by decide +kernel
theorem d2_41 : decode method_3_code 41 = .ok (.lstore_n 2, 1) := by decide +kernel
theorem d2_42 : decode method_3_code 42 = .ok (.lload_n 2, 1) := by decide +kernel
theorem d2_43 : decode method_3_code 43 = .ok (.lload_n 2, 1) := by decide +kernel
theorem d2_44 : decode method_3_code 44 = .ok (.bipush 30, 2) := by decide +kernel
theorem d2_46 : decode method_3_code 46 = .ok (.lushr, 1) := by decide +kernel
theorem d2_47 : decode method_3_code 47 = .ok (.lxor, 1) := by decide +kernel
theorem d2_48 : decode method_3_code 48 = .ok (.lload_n 2, 1) := by decide +kernel
theorem d2_49 : decode method_3_code 49 = .ok (.bipush 60, 2) := by decide +kernel
theorem d2_51 : decode method_3_code 51 = .ok (.lushr, 1) := by decide +kernel
theorem d2_52 : decode method_3_code 52 = .ok (.lxor, 1) := by decide +kernel
theorem d2_53 : decode method_3_code 53 = .ok (.lstore_n 2, 1) := by decide +kernel
theorem d2_54 : decode method_3_code 54 = .ok (.lload_n 2, 1) := by decide +kernel
theorem d2_55 : decode method_3_code 55 = .ok (.lreturn, 1) := by decide +kernel
theorem pd_0 : parseMethodDescriptor "(J)J" = some ⟨[.long], some .long⟩ := by decide +kernel
theorem pn_2 : plainName "com/example/vouchsafe/vouchsafe/job/StreamsMixPinLaw" = true := by first | (simp [plainName, overriddenIn]; done) | decide +kernel
theorem ef_2 (m : MethodId) (q1 : Int64) : entryFrame m #[(.long q1)] 4 = mkF m 0 #[.val (.long q1), .second, .unset, .unset] [] := by first | (simp [entryFrame, mkF, argsToLocals, Value.category]; done) | rfl
def Q2 (Z : State) (q1 : Int64)  (h0 : Heap) (n0 : Nat) : Option Value → Heap → List Loc → Prop := fun v h L => v = some (.long (F_unmix q1)) ∧ Fr n0 L ∧ h = h0
set_option maxRecDepth 65536 in
set_option maxHeartbeats 40000000 in
theorem rm2 (l : Launch) (Z : State) (a0 : Array Value) (hw : ∀ d ∈ tables_1, d.before a0 Z = true) (ws : List Jvm.Cond) (q1 : Int64)  (h0 : Heap) (n0 : Nat) (Z0 : n0 ≤ h0.size)  :
    MetFree l (⟨"com/example/vouchsafe/vouchsafe/job/StreamsMixPinLaw", "unmix", "(J)J"⟩ : MethodName) (head1 (Jvm.Cond.code (⟨"com/example/vouchsafe/vouchsafe/job/StreamsMixPinLaw", "unmix", "(J)J"⟩ : MethodName) method_3_code 4 (some .long) :: ws) ({ frames := 1, cells := 0, slots := 0, locals := 17 } : Room)) (fun a U => a = #[(.long q1)] ∧ Z.Warmed39 U.vm ∧ U.heap = h0) (fun _ _ _ _ _ => True) (fun _ U o U' => ∃ v L, o = .returned v ∧ (Q2 Z q1 h0 n0) v U'.heap L ∧ FrameEnd U o U' L ({ frames := 1, cells := 0, slots := 0, locals := 17 } : Room).cells ({ frames := 1, cells := 0, slots := 0, locals := 17 } : Room).slots) := by
  refine MetFree.of_bodySF (plainFor_of_name pn_2) hisR ?_
  intro p e s m args below meth c s₁ Bd hml0 hP hK
  obtain ⟨rfl, hZ, hh⟩ := hP
  have hx := Bd.exec
  have hby := Bd.bytes
  have hml : c.maxLocals = 4 := hml0
  have hown : s.vm.findClass "com/example/vouchsafe/vouchsafe/job/StreamsMixPinLaw" = some m.cls := findClass_of_methodNamed Bd.named
  have hnm := (name_of_methodNamed Bd.named Bd.method).1
  have X0 : Stand p l e ({ frames := 1, cells := 0, slots := 0, locals := 17 } : Room) s m #[(.long q1)] below meth c s₁ [] 0 0 := Stand.of_body Bd
  have e0 : s₁.heap = h0 := by rw [← hh, Bd.state]; rfl
  have N0 := Fr.nil n0
  show Own.Fin p e below _ (Own.Post s (Q2 Z q1 h0 n0) ({ frames := 1, cells := 0, slots := 0, locals := 17 } : Room).cells ({ frames := 1, cells := 0, slots := 0, locals := 17 } : Room).slots)
  refine Own.start (ef_2 m q1) ?_
  show Own.Fin p e below (s₁.setTop (mkF m 0 #[.val (.long q1), .second, .unset, .unset] [])) _
  refine Own.go (fun t k => XS.lloadN X0.here hx rfl (hb hby d2_0) rfl k) ?_
  show Own.Fin p e below (s₁.setTop (mkF m 1 #[.val (.long q1), .second, .unset, .unset] [(.long q1)])) _
  refine Own.go (fun t k => XS.lloadN X0.here hx rfl (hb hby d2_1) rfl k) ?_
  show Own.Fin p e below (s₁.setTop (mkF m 2 #[.val (.long q1), .second, .unset, .unset] [(.long q1), (.long q1)])) _
  refine Own.go (fun t k => XS.bipush X0.here hx rfl (hb hby d2_2) k) ?_
  show Own.Fin p e below (s₁.setTop (mkF m 4 #[.val (.long q1), .second, .unset, .unset] [(.int (31 : Int32)), (.long q1), (.long q1)])) _
  refine Own.go (fun t k => XS.lushr X0.here hx rfl (hb hby d2_4) rfl k) ?_
  show Own.Fin p e below (s₁.setTop (mkF m 5 #[.val (.long q1), .second, .unset, .unset] [(.long (((q1).toUInt64 >>> ((31 : Int32) &&& 0x3f).toInt64.toUInt64).toInt64)), (.long q1)])) _
  refine Own.go (fun t k => XS.lxor X0.here hx rfl (hb hby d2_5) rfl k) ?_
  show Own.Fin p e below (s₁.setTop (mkF m 6 #[.val (.long q1), .second, .unset, .unset] [(.long (q1 ^^^ (((q1).toUInt64 >>> ((31 : Int32) &&& 0x3f).toInt64.toUInt64).toInt64)))])) _
  refine Own.go (fun t k => XS.lloadN X0.here hx rfl (hb hby d2_6) rfl k) ?_
  show Own.Fin p e below (s₁.setTop (mkF m 7 #[.val (.long q1), .second, .unset, .unset] [(.long q1), (.long (q1 ^^^ (((q1).toUInt64 >>> ((31 : Int32) &&& 0x3f).toInt64.toUInt64).toInt64)))])) _
  refine Own.go (fun t k => XS.bipush X0.here hx rfl (hb hby d2_7) k) ?_
  show Own.Fin p e below (s₁.setTop (mkF m 9 #[.val (.long q1), .second, .unset, .unset] [(.int (62 : Int32)), (.long q1), (.long (q1 ^^^ (((q1).toUInt64 >>> ((31 : Int32) &&& 0x3f).toInt64.toUInt64).toInt64)))])) _
  refine Own.go (fun t k => XS.lushr X0.here hx rfl (hb hby d2_9) rfl k) ?_
  show Own.Fin p e below (s₁.setTop (mkF m 10 #[.val (.long q1), .second, .unset, .unset] [(.long (((q1).toUInt64 >>> ((62 : Int32) &&& 0x3f).toInt64.toUInt64).toInt64)), (.long (q1 ^^^ (((q1).toUInt64 >>> ((31 : Int32) &&& 0x3f).toInt64.toUInt64).toInt64)))])) _
  refine Own.go (fun t k => XS.lxor X0.here hx rfl (hb hby d2_10) rfl k) ?_
  show Own.Fin p e below (s₁.setTop (mkF m 11 #[.val (.long q1), .second, .unset, .unset] [(.long ((q1 ^^^ (((q1).toUInt64 >>> ((31 : Int32) &&& 0x3f).toInt64.toUInt64).toInt64)) ^^^ (((q1).toUInt64 >>> ((62 : Int32) &&& 0x3f).toInt64.toUInt64).toInt64)))])) _
  generalize hv1 : ((q1 ^^^ (((q1).toUInt64 >>> ((31 : Int32) &&& 0x3f).toInt64.toUInt64).toInt64)) ^^^ (((q1).toUInt64 >>> ((62 : Int32) &&& 0x3f).toInt64.toUInt64).toInt64)) = v1
  refine Own.go (fun t k => XS.lstoreN X0.here hx rfl (hb hby d2_11) rfl (l' := #[.val (.long q1), .second, .val (.long v1), .second]) rfl k) ?_
  show Own.Fin p e below (s₁.setTop (mkF m 12 #[.val (.long q1), .second, .val (.long v1), .second] [])) _
  refine Own.go (fun t k => XS.lloadN X0.here hx rfl (hb hby d2_12) rfl k) ?_
  show Own.Fin p e below (s₁.setTop (mkF m 13 #[.val (.long q1), .second, .val (.long v1), .second] [(.long v1)])) _
  refine Own.go (fun t k => X0.ldc2Long hx hown (mvT hZ (hw _ (List.mem_of_getElem? (i := 10) rfl))) (g := (mkF m 13 #[.val (.long q1), .second, .val (.long v1), .second] [(.long v1)])) rfl (hb hby d2_13) _ k) ?_
  show Own.Fin p e below (s₁.setTop (mkF m 16 #[.val (.long q1), .second, .val (.long v1), .second] [(.long (-7723592293110705685 : Int64)), (.long v1)])) _
  refine Own.cS X0 hx hZ hown (hw _ (List.mem_of_getElem? (i := 11) rfl)) (hw _ (List.mem_of_getElem? (i := 12) rfl)) (hw _ (List.mem_of_getElem? (i := 8) rfl)) (hw _ (List.mem_of_getElem? (i := 13) rfl)) (by decide) (rm3 l Z a0 hw [] (-7723592293110705685 : Int64) h0 n0 Z0 ) (by decide) (W := 2) (by decide) (argsL := [(.long (-7723592293110705685 : Int64))]) (rest := [(.long v1)]) (by rw [hml]; rfl) (lenOf pd_0 rfl) rfl (Nat.le_of_eq rfl) (hb hby d2_16) e0 (by decide) (by decide) ?_
  intro T2 L2 v2 X2 hQ2
  obtain ⟨rfl, N2q, e2⟩ := hQ2
  have N2 := Fr.app N0 N2q
  show Own.Fin p e below (T2.setTop (mkF m 19 #[.val (.long q1), .second, .val (.long v1), .second] [(.long (F_inv (-7723592293110705685 : Int64))), (.long v1)])) _
  refine Own.go (fun t k => XS.lmul X2.here hx rfl (hb hby d2_19) rfl k) ?_
  show Own.Fin p e below (T2.setTop (mkF m 20 #[.val (.long q1), .second, .val (.long v1), .second] [(.long (v1 * (F_inv (-7723592293110705685 : Int64))))])) _
  generalize hv3 : (v1 * (F_inv (-7723592293110705685 : Int64))) = v3
  refine Own.go (fun t k => XS.lstoreN X2.here hx rfl (hb hby d2_20) rfl (l' := #[.val (.long q1), .second, .val (.long v3), .second]) rfl k) ?_
  show Own.Fin p e below (T2.setTop (mkF m 21 #[.val (.long q1), .second, .val (.long v3), .second] [])) _
  refine Own.go (fun t k => XS.lloadN X2.here hx rfl (hb hby d2_21) rfl k) ?_
  show Own.Fin p e below (T2.setTop (mkF m 22 #[.val (.long q1), .second, .val (.long v3), .second] [(.long v3)])) _
  refine Own.go (fun t k => XS.lloadN X2.here hx rfl (hb hby d2_22) rfl k) ?_
  show Own.Fin p e below (T2.setTop (mkF m 23 #[.val (.long q1), .second, .val (.long v3), .second] [(.long v3), (.long v3)])) _
  refine Own.go (fun t k => XS.bipush X2.here hx rfl (hb hby d2_23) k) ?_
  show Own.Fin p e below (T2.setTop (mkF m 25 #[.val (.long q1), .second, .val (.long v3), .second] [(.int (27 : Int32)), (.long v3), (.long v3)])) _
  refine Own.go (fun t k => XS.lushr X2.here hx rfl (hb hby d2_25) rfl k) ?_
  show Own.Fin p e below (T2.setTop (mkF m 26 #[.val (.long q1), .second, .val (.long v3), .second] [(.long (((v3).toUInt64 >>> ((27 : Int32) &&& 0x3f).toInt64.toUInt64).toInt64)), (.long v3)])) _
  refine Own.go (fun t k => XS.lxor X2.here hx rfl (hb hby d2_26) rfl k) ?_
  show Own.Fin p e below (T2.setTop (mkF m 27 #[.val (.long q1), .second, .val (.long v3), .second] [(.long (v3 ^^^ (((v3).toUInt64 >>> ((27 : Int32) &&& 0x3f).toInt64.toUInt64).toInt64)))])) _
  refine Own.go (fun t k => XS.lloadN X2.here hx rfl (hb hby d2_27) rfl k) ?_
  show Own.Fin p e below (T2.setTop (mkF m 28 #[.val (.long q1), .second, .val (.long v3), .second] [(.long v3), (.long (v3 ^^^ (((v3).toUInt64 >>> ((27 : Int32) &&& 0x3f).toInt64.toUInt64).toInt64)))])) _
  refine Own.go (fun t k => XS.bipush X2.here hx rfl (hb hby d2_28) k) ?_
  show Own.Fin p e below (T2.setTop (mkF m 30 #[.val (.long q1), .second, .val (.long v3), .second] [(.int (54 : Int32)), (.long v3), (.long (v3 ^^^ (((v3).toUInt64 >>> ((27 : Int32) &&& 0x3f).toInt64.toUInt64).toInt64)))])) _
  refine Own.go (fun t k => XS.lushr X2.here hx rfl (hb hby d2_30) rfl k) ?_
  show Own.Fin p e below (T2.setTop (mkF m 31 #[.val (.long q1), .second, .val (.long v3), .second] [(.long (((v3).toUInt64 >>> ((54 : Int32) &&& 0x3f).toInt64.toUInt64).toInt64)), (.long (v3 ^^^ (((v3).toUInt64 >>> ((27 : Int32) &&& 0x3f).toInt64.toUInt64).toInt64)))])) _
  refine Own.go (fun t k => XS.lxor X2.here hx rfl (hb hby d2_31) rfl k) ?_
  show Own.Fin p e below (T2.setTop (mkF m 32 #[.val (.long q1), .second, .val (.long v3), .second] [(.long ((v3 ^^^ (((v3).toUInt64 >>> ((27 : Int32) &&& 0x3f).toInt64.toUInt64).toInt64)) ^^^ (((v3).toUInt64 >>> ((54 : Int32) &&& 0x3f).toInt64.toUInt64).toInt64)))])) _
  generalize hv4 : ((v3 ^^^ (((v3).toUInt64 >>> ((27 : Int32) &&& 0x3f).toInt64.toUInt64).toInt64)) ^^^ (((v3).toUInt64 >>> ((54 : Int32) &&& 0x3f).toInt64.toUInt64).toInt64)) = v4
  refine Own.go (fun t k => XS.lstoreN X2.here hx rfl (hb hby d2_32) rfl (l' := #[.val (.long q1), .second, .val (.long v4), .second]) rfl k) ?_
  show Own.Fin p e below (T2.setTop (mkF m 33 #[.val (.long q1), .second, .val (.long v4), .second] [])) _
  refine Own.go (fun t k => XS.lloadN X2.here hx rfl (hb hby d2_33) rfl k) ?_
  show Own.Fin p e below (T2.setTop (mkF m 34 #[.val (.long q1), .second, .val (.long v4), .second] [(.long v4)])) _
  refine Own.go (fun t k => X2.ldc2Long hx hown (mvT hZ (hw _ (List.mem_of_getElem? (i := 15) rfl))) (g := (mkF m 34 #[.val (.long q1), .second, .val (.long v4), .second] [(.long v4)])) rfl (hb hby d2_34) _ k) ?_
  show Own.Fin p e below (T2.setTop (mkF m 37 #[.val (.long q1), .second, .val (.long v4), .second] [(.long (-4658895280553007687 : Int64)), (.long v4)])) _
  refine Own.cS X2 hx hZ hown (hw _ (List.mem_of_getElem? (i := 11) rfl)) (hw _ (List.mem_of_getElem? (i := 12) rfl)) (hw _ (List.mem_of_getElem? (i := 8) rfl)) (hw _ (List.mem_of_getElem? (i := 13) rfl)) (by decide) (rm3 l Z a0 hw [] (-4658895280553007687 : Int64) h0 n0 Z0 ) (by decide) (W := 2) (by decide) (argsL := [(.long (-4658895280553007687 : Int64))]) (rest := [(.long v4)]) (by rw [hml]; rfl) (lenOf pd_0 rfl) rfl (Nat.le_of_eq rfl) (hb hby d2_37) e2 (by decide) (by decide) ?_
  intro T5 L5 v5 X5 hQ5
  obtain ⟨rfl, N5q, e5⟩ := hQ5
  have N5 := Fr.app N2 N5q
  show Own.Fin p e below (T5.setTop (mkF m 40 #[.val (.long q1), .second, .val (.long v4), .second] [(.long (F_inv (-4658895280553007687 : Int64))), (.long v4)])) _
  refine Own.go (fun t k => XS.lmul X5.here hx rfl (hb hby d2_40) rfl k) ?_
  show Own.Fin p e below (T5.setTop (mkF m 41 #[.val (.long q1), .second, .val (.long v4), .second] [(.long (v4 * (F_inv (-4658895280553007687 : Int64))))])) _
  generalize hv6 : (v4 * (F_inv (-4658895280553007687 : Int64))) = v6
  refine Own.go (fun t k => XS.lstoreN X5.here hx rfl (hb hby d2_41) rfl (l' := #[.val (.long q1), .second, .val (.long v6), .second]) rfl k) ?_
  show Own.Fin p e below (T5.setTop (mkF m 42 #[.val (.long q1), .second, .val (.long v6), .second] [])) _
  refine Own.go (fun t k => XS.lloadN X5.here hx rfl (hb hby d2_42) rfl k) ?_
  show Own.Fin p e below (T5.setTop (mkF m 43 #[.val (.long q1), .second, .val (.long v6), .second] [(.long v6)])) _
  refine Own.go (fun t k => XS.lloadN X5.here hx rfl (hb hby d2_43) rfl k) ?_
  show Own.Fin p e below (T5.setTop (mkF m 44 #[.val (.long q1), .second, .val (.long v6), .second] [(.long v6), (.long v6)])) _
  refine Own.go (fun t k => XS.bipush X5.here hx rfl (hb hby d2_44) k) ?_
  show Own.Fin p e below (T5.setTop (mkF m 46 #[.val (.long q1), .second, .val (.long v6), .second] [(.int (30 : Int32)), (.long v6), (.long v6)])) _
  refine Own.go (fun t k => XS.lushr X5.here hx rfl (hb hby d2_46) rfl k) ?_
  show Own.Fin p e below (T5.setTop (mkF m 47 #[.val (.long q1), .second, .val (.long v6), .second] [(.long (((v6).toUInt64 >>> ((30 : Int32) &&& 0x3f).toInt64.toUInt64).toInt64)), (.long v6)])) _
  refine Own.go (fun t k => XS.lxor X5.here hx rfl (hb hby d2_47) rfl k) ?_
  show Own.Fin p e below (T5.setTop (mkF m 48 #[.val (.long q1), .second, .val (.long v6), .second] [(.long (v6 ^^^ (((v6).toUInt64 >>> ((30 : Int32) &&& 0x3f).toInt64.toUInt64).toInt64)))])) _
  refine Own.go (fun t k => XS.lloadN X5.here hx rfl (hb hby d2_48) rfl k) ?_
  show Own.Fin p e below (T5.setTop (mkF m 49 #[.val (.long q1), .second, .val (.long v6), .second] [(.long v6), (.long (v6 ^^^ (((v6).toUInt64 >>> ((30 : Int32) &&& 0x3f).toInt64.toUInt64).toInt64)))])) _
  refine Own.go (fun t k => XS.bipush X5.here hx rfl (hb hby d2_49) k) ?_
  show Own.Fin p e below (T5.setTop (mkF m 51 #[.val (.long q1), .second, .val (.long v6), .second] [(.int (60 : Int32)), (.long v6), (.long (v6 ^^^ (((v6).toUInt64 >>> ((30 : Int32) &&& 0x3f).toInt64.toUInt64).toInt64)))])) _
  refine Own.go (fun t k => XS.lushr X5.here hx rfl (hb hby d2_51) rfl k) ?_
  show Own.Fin p e below (T5.setTop (mkF m 52 #[.val (.long q1), .second, .val (.long v6), .second] [(.long (((v6).toUInt64 >>> ((60 : Int32) &&& 0x3f).toInt64.toUInt64).toInt64)), (.long (v6 ^^^ (((v6).toUInt64 >>> ((30 : Int32) &&& 0x3f).toInt64.toUInt64).toInt64)))])) _
  refine Own.go (fun t k => XS.lxor X5.here hx rfl (hb hby d2_52) rfl k) ?_
  show Own.Fin p e below (T5.setTop (mkF m 53 #[.val (.long q1), .second, .val (.long v6), .second] [(.long ((v6 ^^^ (((v6).toUInt64 >>> ((30 : Int32) &&& 0x3f).toInt64.toUInt64).toInt64)) ^^^ (((v6).toUInt64 >>> ((60 : Int32) &&& 0x3f).toInt64.toUInt64).toInt64)))])) _
  generalize hv7 : ((v6 ^^^ (((v6).toUInt64 >>> ((30 : Int32) &&& 0x3f).toInt64.toUInt64).toInt64)) ^^^ (((v6).toUInt64 >>> ((60 : Int32) &&& 0x3f).toInt64.toUInt64).toInt64)) = v7
  refine Own.go (fun t k => XS.lstoreN X5.here hx rfl (hb hby d2_53) rfl (l' := #[.val (.long q1), .second, .val (.long v7), .second]) rfl k) ?_
  show Own.Fin p e below (T5.setTop (mkF m 54 #[.val (.long q1), .second, .val (.long v7), .second] [])) _
  refine Own.go (fun t k => XS.lloadN X5.here hx rfl (hb hby d2_54) rfl k) ?_
  show Own.Fin p e below (T5.setTop (mkF m 55 #[.val (.long q1), .second, .val (.long v7), .second] [(.long v7)])) _
  refine Own.retJ X5 hx Bd.notSynchronized Bd.returns (hb hby d2_55) (by decide) (by decide) ?_
  exact ⟨by subst hv7 hv6 hv4 hv3 hv1; rfl, N5, e5⟩
theorem pn_0 : plainName "com/example/vouchsafe/vouchsafe/job/StreamsMixPinLaw" = true := by first | (simp [plainName, overriddenIn]; done) | decide +kernel
theorem ef_0 (m : MethodId) (q1 : Int64) : entryFrame m #[(.long q1)] maxLocals = mkF m 0 #[.val (.long q1), .second] [] := by first | (simp [entryFrame, mkF, argsToLocals, Value.category, maxLocals]; done) | rfl
def Q0 (Z : State) (q1 : Int64)  (h0 : Heap) (n0 : Nat) : Option Value → Heap → List Loc → Prop := fun v h L => v = some (.int 1) ∧ Fr n0 L
set_option maxRecDepth 65536 in
set_option maxHeartbeats 40000000 in
theorem rm0 (l : Launch) (Z : State) (a0 : Array Value) (hw : ∀ d ∈ tables_1, d.before a0 Z = true) (ws : List Jvm.Cond) (q1 : Int64)  (h0 : Heap) (n0 : Nat) (Z0 : n0 ≤ h0.size)  :
    MetFree l x (head1 (Jvm.Cond.code x code maxLocals ret :: ws) room_1) (fun a U => a = #[(.long q1)] ∧ Z.Warmed39 U.vm ∧ U.heap = h0) (fun _ _ _ _ _ => True) (fun _ U o U' => ∃ v L, o = .returned v ∧ (Q0 Z q1 h0 n0) v U'.heap L ∧ FrameEnd U o U' L room_1.cells room_1.slots) := by
  refine MetFree.of_bodySF (plainFor_of_name pn_0) hisR ?_
  intro p e s m args below meth c s₁ Bd hml0 hP hK
  obtain ⟨rfl, hZ, hh⟩ := hP
  have hx := Bd.exec
  have hby := Bd.bytes
  have hml : c.maxLocals = 2 := hml0
  have hown : s.vm.findClass "com/example/vouchsafe/vouchsafe/job/StreamsMixPinLaw" = some m.cls := findClass_of_methodNamed Bd.named
  have hnm := (name_of_methodNamed Bd.named Bd.method).1
  have X0 : Stand p l e room_1 s m #[(.long q1)] below meth c s₁ [] 0 0 := Stand.of_body Bd
  have e0 : s₁.heap = h0 := by rw [← hh, Bd.state]; rfl
  have N0 := Fr.nil n0
  show Own.Fin p e below _ (Own.Post s (Q0 Z q1 h0 n0) room_1.cells room_1.slots)
  refine Own.start (ef_0 m q1) ?_
  show Own.Fin p e below (s₁.setTop (mkF m 0 #[.val (.long q1), .second] [])) _
  refine Own.go (fun t k => XS.lloadN X0.here hx rfl (hb hby at_0) rfl k) ?_
  show Own.Fin p e below (s₁.setTop (mkF m 1 #[.val (.long q1), .second] [(.long q1)])) _
  refine Own.cS X0 hx hZ hown (hw _ (List.mem_of_getElem? (i := 0) rfl)) (hw _ (List.mem_of_getElem? (i := 1) rfl)) (hw _ (List.mem_of_getElem? (i := 2) rfl)) (hw _ (List.mem_of_getElem? (i := 3) rfl)) (by decide) (rm1 l Z a0 hw [] q1 h0 n0 Z0 ) (by decide) (W := 0) (by decide) (argsL := [(.long q1)]) (rest := []) (by rw [hml]; rfl) (lenOf pd_0 rfl) rfl (Nat.le_of_eq rfl) (hb hby at_1) e0 (by decide) (by decide) ?_
  intro T1 L1 v1 X1 hQ1
  obtain ⟨rfl, N1q, e1⟩ := hQ1
  have N1 := Fr.app N0 N1q
  show Own.Fin p e below (T1.setTop (mkF m 4 #[.val (.long q1), .second] [(.long (F_mix q1))])) _
  refine Own.cS X1 hx hZ hown (hw _ (List.mem_of_getElem? (i := 6) rfl)) (hw _ (List.mem_of_getElem? (i := 7) rfl)) (hw _ (List.mem_of_getElem? (i := 8) rfl)) (hw _ (List.mem_of_getElem? (i := 9) rfl)) (by decide) (rm2 l Z a0 hw [] (F_mix q1) h0 n0 Z0 ) (by decide) (W := 0) (by decide) (argsL := [(.long (F_mix q1))]) (rest := []) (by rw [hml]; rfl) (lenOf pd_0 rfl) rfl (Nat.le_of_eq rfl) (hb hby at_4) e1 (by decide) (by decide) ?_
  intro T2 L2 v2 X2 hQ2
  obtain ⟨rfl, N2q, e2⟩ := hQ2
  have N2 := Fr.app N1 N2q
  show Own.Fin p e below (T2.setTop (mkF m 7 #[.val (.long q1), .second] [(.long (F_unmix (F_mix q1)))])) _
  refine Own.go (fun t k => XS.lloadN X2.here hx rfl (hb hby at_7) rfl k) ?_
  show Own.Fin p e below (T2.setTop (mkF m 8 #[.val (.long q1), .second] [(.long q1), (.long (F_unmix (F_mix q1)))])) _
  refine Own.go (fun t k => XS.lcmp X2.here hx rfl (hb hby at_8) rfl k) ?_
  show Own.Fin p e below (T2.setTop (mkF m 9 #[.val (.long q1), .second] [(.int (lcmpW (F_unmix (F_mix q1)) q1))])) _
  have hc9_2 : (lcmpW (F_unmix (F_mix q1)) q1) = (0 : Int32) := (lw_eq _ _).mpr (own_law _)
  refine Own.go (fun t k => XS.ifNo X2.here hx rfl (hb hby at_9) rfl ((if0 _ _).trans (teq hc9_2).2) k) ?_
  show Own.Fin p e below (T2.setTop (mkF m 12 #[.val (.long q1), .second] [])) _
  refine Own.go (fun t k => XS.iconst X2.here hx rfl (hb hby at_12) k) ?_
  show Own.Fin p e below (T2.setTop (mkF m 13 #[.val (.long q1), .second] [(.int (1 : Int32))])) _
  refine Own.go (fun t k => XS.goto X2.here hx rfl (pc0 := 13) (pc' := 17) rfl (hb hby at_13) (by decide) (by decide) k) ?_
  show Own.Fin p e below (T2.setTop (mkF m 17 #[.val (.long q1), .second] [(.int (1 : Int32))])) _
  refine Own.retN X2 hx Bd.notSynchronized (t := .boolean) Bd.returns (by simp) (hb hby at_17) (by decide) (by decide) ?_
  exact ⟨rfl, N2⟩
set_option maxRecDepth 65536 in
set_option maxHeartbeats 40000000 in
theorem comes_1 {Post : Tables → Env → Array Value → State → Outcome → State → Prop} (hpost : ∀ tb e args s v u, (limb_1_1.after args s (.returned v) u = true ∧ limb_1_2.after args s (.returned v) u = true ∧ True) → FrameEnd s (.returned v) u (Jvm.fieldLocs frame_1_writes args s ++ Jvm.arrayLocs frame_1_arrays args s ++ Jvm.staticLocs frame_1_statics s) 0 0 → Post tb e args s (.returned v) u) :
    ArmFor flags0 classFile x code maxLocals ret World_1 tables_1 room_1 Calls_1 rest_1 Pre_1 Post := by
  intro l hfl _ _ p e ha hc hk s m args below hf hA hF happ hP
  obtain ⟨hcalls, hrest, hpre⟩ := hP
  obtain ⟨-, -, -, hnamed, -, -, -, hat⟩ := (Spec.applies_iff hf).mp happ
  obtain ⟨hg, hn⟩ := and_e (Cond.before_iff.mp (show (Jvm.Cond.and given_1 narrow_1).before args s = true from hpre))
  obtain ⟨g1, g2⟩ := and_e hg
  obtain ⟨w0, rfl⟩ : ∃ w0 : Value, args = #[w0] := by
    have hs : args.size = 1 := by simpa [Cond.value, given_1] using g1
    obtain ⟨L⟩ := args
    match L, hs with
    | [w0], _ => exact ⟨w0, rfl⟩
  have hw := fun d (hd : d ∈ tables_1) => atoms_spec (ws := Jvm.Cond.code x code maxLocals ret :: tables_1) hat d (List.mem_cons_of_mem _ hd)
  have hfit : Fit s := fun {y c} hc i hi => by
    obtain ⟨ha, rfl⟩ := Array.getElem?_eq_some_iff.mp hc
    have q := List.all_eq_true.mp ((Array.all_eq_true_iff_forall_mem.mp hF) _ (Array.getElem_mem ha)) i (List.mem_range.mpr hi)
    simpa [Array.getElem?_eq_getElem hi] using q
  obtain ⟨i0, ei0⟩ := isL_v g2
  obtain rfl : w0 = (.long i0) := Option.some.inj ei0
  obtain ⟨n, o, h1, h2, h3, _, L, rfl, ⟨rfl, N⟩, hq⟩ := rm0 l s _ hw tables_1 i0 s.heap s.heap.size (Nat.le_refl _)  p e ha hc hk s m _ below hf ((Spec.applies_iff_loose hf).mp happ).1 ⟨rfl, State.Warmed39.refl s, rfl⟩ trivial
  refine ⟨n, _, h1, h2, h3, hpost _ _ _ _ _ _ ⟨Cond.after_iff.mpr rfl, Cond.after_iff.mpr (eq_i res_at (Term.int_eval (1)) rfl), trivial⟩ ⟨hq.1, hq.2.1, (hq.2.2.sift fun y hy => Or.inr (N y hy)).mono (by decide) (by decide)⟩⟩
theorem main_1_1 : Claimed_1_1 := comes_1 fun _ _ _ _ _ _ h hF => ⟨h.1, hF⟩
theorem main_1_2 : Claimed_1_2 := comes_1 fun _ _ _ _ _ _ h hF => ⟨h.2.1, hF⟩
end Jvm.Pilot.@@N@@
namespace Jvm.Pilot.@@N@@
open Jvm Jvm.ClassFile Sem Op Lib Jvm.Free Jvm.Stand Jvm.Pilot.@@N@@.Jvm.D
/-! MADE BY PROGRAM (witnessworld.py) out of the Statement's table words and the real class files: 9 classes; the members and pool entries that the words name. The judged class is class 1, her method 3. -/
namespace start1
open Jvm.ClassFile
def u (s : String) : CpInfo := .utf8 (stringToUtf16 s)
/-- a pool by its gaps: so many unusable entries, then the entry; so many at the end -/
def gap : Nat → List CpInfo → List CpInfo
  | 0, r => r
  | n + 1, r => .unusable :: gap n r
def poolList (es : List (Nat × CpInfo)) (last : Nat) : List CpInfo := es.foldr (fun e r => gap e.1 (e.2 :: r)) (gap last [])
def pool (es : List (Nat × CpInfo)) (last : Nat) : Array CpInfo := ⟨poolList es last⟩
def fileOf (pool : Array CpInfo) (this : Nat) (attrs : Array Attribute := #[]) (ms : Array MethodInfo := #[]) (fl : Nat := 33) (sup : Nat := 0) (ifs : Array Nat := #[]) (fds : Array FieldInfo := #[]) : ClassFile where
  minorVersion := 0
  majorVersion := 65
  constantPool := pool
  accessFlags := fl
  thisClass := this
  superClass := sup
  interfaces := ifs
  fields := fds
  methods := ms
  attributes := attrs
def plain (name : String) (sup : Option ClassId) : Class where
  name := name
  kind := .ordinary
  loader := none
  accessFlags := 33
  super := sup
  interfaces := #[]
  cf := none
  fields := #[]
  methods := #[]
  instanceTypes := #[]
  staticTypes := #[]
  resolved := #[]
  callSites := []
  init := .initialized
  statics := none
  mirror := none

def pool0 : Array CpInfo := pool [(5, u "<init>"), (0, u "()V"), (1, .class_ 10), (1, u "java/lang/Object")] 113

def k0m0 : Method := { name := "<init>", desc := "()V", sig := { parameters := [], returnType := none }, accessFlags := 1, code := none }
/-- java/lang/Object -/
def k0 : Class := { plain "java/lang/Object" none with
  accessFlags := 33
  interfaces := #[]
  cf := some (fileOf pool0 8 #[] #[{ accessFlags := 1, nameIndex := 5, descriptorIndex := 6, attributes := #[] }] 33 0 #[] #[])
  fields := #[]
  methods := #[k0m0]
  instanceTypes := #[]
  staticTypes := #[]
  resolved := Array.replicate 124 none
  statics := none }

def pool1 : Array CpInfo := pool [(2, .class_ 4), (1, u "java/lang/Object"), (0, u "<init>"), (0, u "()V"), (0, .long 2), (1, .long 10723151780598845931), (1, .methodref 12 13), (0, .class_ 14), (0, .nameAndType 15 16), (0, u "com/example/vouchsafe/vouchsafe/job/StreamsMixPinLaw"), (0, u "inverse"), (0, u "(J)J"), (0, .long 13787848793156543929), (1, .methodref 20 21), (0, .class_ 22), (0, .nameAndType 23 16), (0, u "com/example/vouchsafe/vouchsafe/job/Streams"), (0, u "mix"), (0, .methodref 12 25), (0, .nameAndType 26 16), (0, u "unmix"), (2, u "law"), (0, u "(J)Z")] 3

def k1m0 : Method := { name := "<init>", desc := "()V", sig := { parameters := [], returnType := none }, accessFlags := 2, code := none }
def k1c1 : Code := { maxStack := 8, maxLocals := 4, code := method_2_code, exceptionTable := #[], attributes := #[] }
def k1m1 : Method := { name := "inverse", desc := "(J)J", sig := { parameters := [.long], returnType := some .long }, accessFlags := 10, code := some k1c1 }
def k1c2 : Code := { maxStack := 5, maxLocals := 4, code := method_3_code, exceptionTable := #[], attributes := #[] }
def k1m2 : Method := { name := "unmix", desc := "(J)J", sig := { parameters := [.long], returnType := some .long }, accessFlags := 10, code := some k1c2 }
def k1c3 : Code := { maxStack := 4, maxLocals := 2, code := code, exceptionTable := #[], attributes := #[] }
def k1m3 : Method := { name := "law", desc := "(J)Z", sig := { parameters := [.long], returnType := some .boolean }, accessFlags := 9, code := some k1c3 }
/-- com/example/vouchsafe/vouchsafe/job/StreamsMixPinLaw -/
def k1 : Class := { plain "com/example/vouchsafe/vouchsafe/job/StreamsMixPinLaw" (some 0) with
  accessFlags := 49
  interfaces := #[]
  cf := some (fileOf pool1 12 #[] #[{ accessFlags := 2, nameIndex := 5, descriptorIndex := 6, attributes := #[] }, { accessFlags := 10, nameIndex := 15, descriptorIndex := 16, attributes := #[] }, { accessFlags := 10, nameIndex := 26, descriptorIndex := 16, attributes := #[] }, { accessFlags := 9, nameIndex := 29, descriptorIndex := 30, attributes := #[] }] 49 2 #[] #[])
  fields := #[]
  methods := #[k1m0, k1m1, k1m2, k1m3]
  instanceTypes := #[]
  staticTypes := #[]
  resolved := Array.replicate 34 none
  statics := none }

def pool2 : Array CpInfo := pool [(2, .class_ 4), (1, u "java/lang/Object"), (0, u "<init>"), (0, u "()V"), (1, .class_ 10), (1, u "com/example/vouchsafe/vouchsafe/job/Streams"), (0, u "mix"), (0, u "(J)J"), (5, .long 13787848793156543929), (1, .long 10723151780598845931), (1, u "QUIZZES"), (0, u "J"), (3, u "COLLUSION")] 11

def k2m0 : Method := { name := "<init>", desc := "()V", sig := { parameters := [], returnType := none }, accessFlags := 2, code := none }
def k2c1 : Code := { maxStack := 5, maxLocals := 4, code := prog_69_method_3_code, exceptionTable := #[], attributes := #[] }
def k2m1 : Method := { name := "mix", desc := "(J)J", sig := { parameters := [.long], returnType := some .long }, accessFlags := 8, code := some k2c1 }
/-- com/example/vouchsafe/vouchsafe/job/Streams -/
def k2 : Class := { plain "com/example/vouchsafe/vouchsafe/job/Streams" (some 0) with
  accessFlags := 48
  interfaces := #[]
  cf := some (fileOf pool2 8 #[] #[{ accessFlags := 2, nameIndex := 5, descriptorIndex := 6, attributes := #[] }, { accessFlags := 8, nameIndex := 11, descriptorIndex := 12, attributes := #[] }] 48 2 #[] #[{ accessFlags := 24, nameIndex := 22, descriptorIndex := 23, attributes := #[] }, { accessFlags := 24, nameIndex := 27, descriptorIndex := 23, attributes := #[] }])
  fields := #[{ name := "QUIZZES", type := .long, accessFlags := 24, slot := 0, constantValue := 0 }, { name := "COLLUSION", type := .long, accessFlags := 24, slot := 1, constantValue := 0 }]
  methods := #[k2m0, k2m1]
  instanceTypes := #[]
  staticTypes := #[.long, .long]
  resolved := Array.replicate 39 none
  statics := none }

def pool3 : Array CpInfo := pool [(1, u "java/lang/Cloneable"), (0, .class_ 1), (0, u "java/lang/Object"), (0, .class_ 3)] 3

/-- java/lang/Cloneable -/
def k3 : Class := { plain "java/lang/Cloneable" (some 0) with
  accessFlags := 1537
  interfaces := #[]
  cf := some (fileOf pool3 2 #[] #[] 1537 4 #[] #[])
  fields := #[]
  methods := #[]
  instanceTypes := #[]
  staticTypes := #[]
  resolved := Array.replicate 8 none
  statics := none }

def pool4 : Array CpInfo := pool [(1, u "java/io/Serializable"), (0, .class_ 1), (0, u "java/lang/Object"), (0, .class_ 3)] 3

/-- java/io/Serializable -/
def k4 : Class := { plain "java/io/Serializable" (some 0) with
  accessFlags := 1537
  interfaces := #[]
  cf := some (fileOf pool4 2 #[] #[] 1537 4 #[] #[])
  fields := #[]
  methods := #[]
  instanceTypes := #[]
  staticTypes := #[]
  resolved := Array.replicate 8 none
  statics := none }

/-- the primitive byte -/
def k5 : Class := { plain "byte" none with kind := .primitive 'B', accessFlags := 0x411 }
/-- [B -/
def k6 : Class := { plain "[B" (some 0) with kind := .array 5 .byte, interfaces := #[3, 4], accessFlags := 1041 }

/-- the primitive int -/
def k7 : Class := { plain "int" none with kind := .primitive 'I', accessFlags := 0x411 }
/-- [I -/
def k8 : Class := { plain "[I" (some 0) with kind := .array 7 .int, interfaces := #[3, 4], accessFlags := 1041 }

def heap : Heap := #[]
def classes : Array Class := #[k0, k1, k2, k3, k4, k5, k6, k7, k8]
def interned : List (Array UInt16 × Addr) := []
def slotsUsed : Nat := 0
def theMethod : MethodId := ⟨1, 3⟩
def args0 : Array Value := #[.long 5]
def aboutOver (below : List Frame) : State where
  vm := { classes := classes, interned := interned.toArray }
  heap := heap
  slotsUsed := slotsUsed
  threads := #[{ frames := .invoking theMethod args0 :: below }]
def below0 : List Frame := [.native { method := ⟨0, 0⟩, args := #[] }]
def about1 : State := aboutOver below0
def p0 : Program := .bare "" "" ""
def e0 : Env := launch0.env 0 0 0
theorem w_frames : about1.frames = Frame.invoking theMethod args0 :: below0 := rfl
set_option maxRecDepth 65536 in
theorem w_args : argsFit about1.vm theMethod args0 = true := by decide +kernel
set_option maxRecDepth 65536 in
theorem w_heap : heapFits about1 = true := by decide +kernel
set_option maxRecDepth 65536 in
theorem w_runnable : about1.curStatus? = some .runnable := by decide +kernel
set_option maxRecDepth 65536 in
theorem w_alone : about1.alone = true := by decide +kernel
set_option maxRecDepth 65536 in
theorem w_named : about1.methodNamed? x = some theMethod := by decide +kernel
set_option maxRecDepth 65536 in
theorem w_hears : about1.hears theMethod below0 = true := by decide +kernel
set_option maxRecDepth 65536 in
theorem w_ripe : about1.ripe theMethod args0 below0 = true := by decide +kernel
theorem w_running : about1.status = .running := rfl
set_option maxRecDepth 65536 in
theorem w_room : about1.hasRoom e0.platform room_1 = true :=
  launch0.hasRoom_least _ room_1 (by decide +kernel) (by decide +kernel) (by decide +kernel) (by decide +kernel) (by decide +kernel) (by decide +kernel)
theorem allAtoms_all (ts : List Jvm.Cond) (a : Array Jvm.Value) (st : Jvm.State) : (allAtoms ts).before a st = ts.all (fun c => c.before a st) := by
  induction ts with
  | nil => rfl
  | cons c t ih =>
    show (Jvm.Cond.and c (allAtoms t)).before a st = _
    rw [Jvm.Cond.before_and, ih, List.all_cons]
def words1 : List Jvm.Cond := Jvm.Cond.code x code maxLocals ret :: tables_1
/-- a 'code' word, met by the world's own term for the bytes: nothing is compared byte by byte -/
theorem code_word {y : MethodName} {bytes : ByteArray} {mx : Nat} {rt : Option FieldType} {a : Array Value} {s : State} {m : MethodId} {meth : Method} {c : Code} (h1 : s.methodNamed? y = some m) (h2 : s.vm.method? m = some meth) (h3 : meth.code = some c) (h4 : c.code = bytes)
    (h5 : (c.maxLocals == mx && c.exceptionTable.isEmpty && decide (c.maxStack ≤ mostOperands) && decide (meth.sig.returnType = rt) && !meth.locks && decide (parseMethodDescriptor y.desc = some meth.sig)) = true) : (Jvm.Cond.code y bytes mx rt).before a s = true := by
  simp only [Bool.and_eq_true, beq_iff_eq, Bool.not_eq_true', decide_eq_true_eq] at h5
  obtain ⟨⟨⟨⟨⟨g1, g2⟩, g3⟩, g4⟩, g5⟩, g6⟩ := h5
  simp [Cond.before, Cond.holds, Cond.value, h1, h2, h3, h4, g1, g2, g3, g4, g5, g6]
def isCode : Jvm.Cond → Bool
  | .code _ _ _ _ => true
  | _ => false
theorem all_split {L : List Jvm.Cond} {P : Jvm.Cond → Bool} (h1 : L.all (fun c => isCode c || P c) = true) (h2 : ∀ c ∈ L.filter isCode, P c = true) : L.all P = true := by
  refine List.all_eq_true.mpr fun c hc => ?_
  have h := List.all_eq_true.mp h1 c hc
  rcases Bool.eq_false_or_eq_true (isCode c) with hi | hi
  · exact h2 c (List.mem_filter.mpr ⟨hc, hi⟩)
  · simpa [hi] using h
set_option maxRecDepth 65536 in
theorem w_c0 : (Jvm.Cond.code x code maxLocals ret).before args0 about1 = true := code_word (m := ⟨1, 3⟩) (meth := k1m3) (c := k1c3) (by decide +kernel) rfl rfl rfl (by decide +kernel)
set_option maxRecDepth 65536 in
theorem w_c1 : (Jvm.Cond.code ({ cls := "com/example/vouchsafe/vouchsafe/job/Streams", name := "mix", desc := "(J)J" } : Jvm.MethodName) prog_69_method_3_code (4 : Nat) (Option.some Jvm.ClassFile.FieldType.long)).before args0 about1 = true := code_word (m := ⟨2, 1⟩) (meth := k2m1) (c := k2c1) (by decide +kernel) rfl rfl rfl (by decide +kernel)
set_option maxRecDepth 65536 in
theorem w_c2 : (Jvm.Cond.code ({ cls := "com/example/vouchsafe/vouchsafe/job/StreamsMixPinLaw", name := "unmix", desc := "(J)J" } : Jvm.MethodName) method_3_code (4 : Nat) (Option.some Jvm.ClassFile.FieldType.long)).before args0 about1 = true := code_word (m := ⟨1, 2⟩) (meth := k1m2) (c := k1c2) (by decide +kernel) rfl rfl rfl (by decide +kernel)
set_option maxRecDepth 65536 in
theorem w_c3 : (Jvm.Cond.code ({ cls := "com/example/vouchsafe/vouchsafe/job/StreamsMixPinLaw", name := "inverse", desc := "(J)J" } : Jvm.MethodName) method_2_code (4 : Nat) (Option.some Jvm.ClassFile.FieldType.long)).before args0 about1 = true := code_word (m := ⟨1, 1⟩) (meth := k1m1) (c := k1c1) (by decide +kernel) rfl rfl rfl (by decide +kernel)
def codes1 : List Jvm.Cond := [Jvm.Cond.code x code maxLocals ret, Jvm.Cond.code ({ cls := "com/example/vouchsafe/vouchsafe/job/Streams", name := "mix", desc := "(J)J" } : Jvm.MethodName) prog_69_method_3_code (4 : Nat) (Option.some Jvm.ClassFile.FieldType.long), Jvm.Cond.code ({ cls := "com/example/vouchsafe/vouchsafe/job/StreamsMixPinLaw", name := "unmix", desc := "(J)J" } : Jvm.MethodName) method_3_code (4 : Nat) (Option.some Jvm.ClassFile.FieldType.long), Jvm.Cond.code ({ cls := "com/example/vouchsafe/vouchsafe/job/StreamsMixPinLaw", name := "inverse", desc := "(J)J" } : Jvm.MethodName) method_2_code (4 : Nat) (Option.some Jvm.ClassFile.FieldType.long)]
set_option maxRecDepth 65536 in
theorem codes_eq : words1.filter isCode = codes1 := rfl
theorem w_codes : ∀ c ∈ words1.filter isCode, c.before args0 about1 = true := by
  rw [codes_eq]
  intro c hc
  simp only [codes1, List.mem_cons, List.not_mem_nil, or_false] at hc
  rcases hc with rfl | rfl | rfl | rfl
  · exact w_c0
  · exact w_c1
  · exact w_c2
  · exact w_c3
set_option maxRecDepth 65536 in
theorem w_t1 : words1.all (fun c => isCode c || c.before args0 about1) = true := by decide +kernel
theorem w_tables : (allAtoms (Jvm.Cond.code x code maxLocals ret :: tables_1)).before args0 about1 = true := by
  rw [allAtoms_all]
  show words1.all (fun c => c.before args0 about1) = true
  refine all_split ?_ w_codes
  rw [w_t1]
set_option maxRecDepth 65536 in
theorem w_case : (Jvm.Cond.and given_1 narrow_1).before args0 about1 = true := by decide +kernel
theorem w_applies : (headSpec (Jvm.Cond.code x code maxLocals ret :: tables_1) room_1).applies x e0.platform about1 = true :=
  (Spec.applies_iff w_frames).mpr ⟨w_running, w_runnable, w_alone, w_named, w_hears, w_ripe, w_room, w_tables⟩
theorem atStart : AtStart classFile x code maxLocals ret World_1 tables_1 room_1 Calls_1 rest_1 Pre_1 launch0 p0 e0 about1 theMethod args0 below0 :=
  ⟨lists_1, trivial, launch0.admits_env _ _ _, launch0.least_env, fairChoices_fair.cas, fairChoices_fair.clock, w_frames, w_args, w_heap, w_applies, trivial, trivial, w_case⟩
end start1
theorem witness_1 : WitnessClaimed_1 := ⟨start1.p0, start1.e0, start1.about1, start1.theMethod, start1.args0, start1.below0, start1.atStart⟩
end Jvm.Pilot.@@N@@
