import JvmDerived
import JvmDerived.Pilot.@@N@@Statement
import JvmDerived.Pilot.@@N@@Code
set_option linter.unusedVariables false
set_option linter.unusedSimpArgs false
namespace Own
open Jvm Jvm.ClassFile Sem Op Lib Jvm.Stand Jvm.Free Jvm.LawKit Jvm.RoadKit
def Fin (p : Program) (e : Env) (below : List Frame) (G : State) (Q : Outcome → State → Prop) : Prop :=
  ∃ s₂ o, Steps p.tables e below G s₂ ∧ s₂.status = .running ∧ Ended s₂ below o ∧ Q o s₂
def Post (s : State) (K : Option Value → Heap → List Loc → Prop) (cc ss : Nat) (o : Outcome) (U : State) : Prop :=
  ∃ v L, o = .returned v ∧ K v U.heap L ∧ FrameEnd s o U L cc ss
theorem go {p : Program} {e : Env} {below : List Frame} {G G' : State} {Q : Outcome → State → Prop} (h : ∀ t, Steps p.tables e below G' t → Steps p.tables e below G t) (k : Fin p e below G' Q) : Fin p e below G Q := by
  obtain ⟨s₂, o, h1, h2⟩ := k
  exact ⟨s₂, o, h _ h1, h2⟩
theorem start {p : Program} {e : Env} {below : List Frame} {T : State} {g g' : JFrame} {Q : Outcome → State → Prop} (q : g = g') (k : Fin p e below (T.setTop g') Q) : Fin p e below (T.setTop g) Q := q ▸ k
theorem clamp_lt {j z : Int32} {n : Nat} (hj : ¬ j < 0 ∧ j < z) (hz : z.toNatClampNeg = n) : j.toNatClampNeg < n := by
  subst hz
  have h1 := hj.1; have h2 := hj.2
  rw [Int32.lt_iff_toInt_lt] at h1 h2
  have h0 : (0 : Int32).toInt = 0 := by decide
  rw [h0] at h1
  show j.toInt.toNat < z.toInt.toNat
  omega
section A
variable {p : Program} {l : Launch} {e : Env} {R : Room} {s : State} {m : MethodId} {args : Array Value} {below : List Frame} {meth : Method} {c : Code} {T : State} {locs : List Loc} {cells slots : Nat}
theorem retAny (X : Stand p l e R s m args below meth c T locs cells slots) {v : Option Value} (hlk : meth.locks = false) (hv : meth.sig.returnType = none → v = none) {g : JFrame}
    (hstep : ∀ fs, (∀ (f : JFrame) (acts : List Action), f.method = m → f.locked = none → f.entered = [] → (doReturn e (T.setTop f) acts v).1 = T.setFrames fs) → Steps p.tables e below (T.setTop g) (T.setFrames fs))
    {K : Option Value → Heap → List Loc → Prop} {cc ss : Nat} (hc : cells ≤ cc) (hs : slots ≤ ss) (hk : K v T.heap locs) : Fin p e below (T.setTop g) (Post s K cc ss) := by
  obtain ⟨fs, hr, hrun, hended, hW, hsame⟩ := X.leave (v := v) hv hlk
  exact ⟨_, _, hstep fs hr, hrun, hended, _, _, rfl, hk, ⟨_, rfl⟩, hW, hsame.mono hc hs⟩
theorem retI (X : Stand p l e R s m args below meth c T locs cells slots) (hx : p.tables.exec = Jvm.exec) (hlk : meth.locks = false) (hret : meth.sig.returnType = some .int) {pc : Nat} {Ls : Array Slot} {z : Int32} {rest : List Value} (hd : decode c.code pc = .ok (.ireturn, 1))
    {K : Option Value → Heap → List Loc → Prop} {cc ss : Nat} (hc : cells ≤ cc) (hs : slots ≤ ss) (hk : K (some (.int z)) T.heap locs) : Fin p e below (T.setTop (mkF m pc Ls (.int z :: rest))) (Post s K cc ss) := by
  refine retAny X (v := some (.int z)) hlk (fun h => by rw [hret] at h; cases h) (fun fs hl => ?_) hc hs hk
  have hm' : T.vm.method? m = some meth := X.method'
  have hn : narrow .int (.int z) = .int z := rfl
  show Steps p.tables e below (T.setTop { method := m, pc := pc, locals := Ls, stack := _ :: rest, locked := none }) _
  jvm_step X.here [X.here.top, hx, hd, hm', hret, hn]
  first | (intro acts; rw [hl _ acts rfl rfl rfl]) | rw [hl _ _ rfl rfl rfl]
  exact Steps.refl _
theorem retN (X : Stand p l e R s m args below meth c T locs cells slots) (hx : p.tables.exec = Jvm.exec) (hlk : meth.locks = false) {t : FieldType} (hret : meth.sig.returnType = some t) (ht : t = .boolean ∨ t = .byte ∨ t = .char ∨ t = .short) {pc : Nat} {Ls : Array Slot} {z : Int32} {rest : List Value} (hd : decode c.code pc = .ok (.ireturn, 1))
    {K : Option Value → Heap → List Loc → Prop} {cc ss : Nat} (hc : cells ≤ cc) (hs : slots ≤ ss) (hk : K (some (.int (nar t z))) T.heap locs) : Fin p e below (T.setTop (mkF m pc Ls (.int z :: rest))) (Post s K cc ss) :=
  retAny X (v := some (.int (nar t z))) hlk (fun h => by rw [hret] at h; cases h) (fun fs hl => RoadKit.retN X hx hret ht hd hl) hc hs hk
theorem retJ (X : Stand p l e R s m args below meth c T locs cells slots) (hx : p.tables.exec = Jvm.exec) (hlk : meth.locks = false) (hret : meth.sig.returnType = some .long) {pc : Nat} {Ls : Array Slot} {z : Int64} {rest : List Value} (hd : decode c.code pc = .ok (.lreturn, 1))
    {K : Option Value → Heap → List Loc → Prop} {cc ss : Nat} (hc : cells ≤ cc) (hs : slots ≤ ss) (hk : K (some (.long z)) T.heap locs) : Fin p e below (T.setTop (mkF m pc Ls (.long z :: rest))) (Post s K cc ss) := by
  refine retAny X (v := some (.long z)) hlk (fun h => by rw [hret] at h; cases h) (fun fs hl => ?_) hc hs hk
  have hm' : T.vm.method? m = some meth := X.method'
  show Steps p.tables e below (T.setTop { method := m, pc := pc, locals := Ls, stack := _ :: rest, locked := none }) _
  jvm_step X.here [X.here.top, hx, hd, hm', hret, narrow]
  first | (intro acts; rw [hl _ acts rfl rfl rfl]) | rw [hl _ _ rfl rfl rfl]
  exact Steps.refl _
theorem retV (X : Stand p l e R s m args below meth c T locs cells slots) (hx : p.tables.exec = Jvm.exec) (hlk : meth.locks = false) (hret : meth.sig.returnType = none) {pc : Nat} {Ls : Array Slot} (hd : decode c.code pc = .ok (.return_, 1))
    {K : Option Value → Heap → List Loc → Prop} {cc ss : Nat} (hc : cells ≤ cc) (hs : slots ≤ ss) (hk : K none T.heap locs) : Fin p e below (T.setTop (mkF m pc Ls [])) (Post s K cc ss) :=
  retAny X (v := none) hlk (fun _ => rfl) (fun fs hl => X.returnOut hx hret hd hl) hc hs hk
theorem cS {Z : State} {a0 : Array Value} {h : Heap} (X : Stand p l e R s m args below meth c T locs cells slots) (hx : p.tables.exec = Jvm.exec) (hZ : Z.Warmed39 s.vm) {own : String} {index : Nat} {y : MethodName} {bytes : ByteArray} {maxL : Nat} {ret : Option FieldType} {rm : Room} {as' : Array Value} {Q : Option Value → Heap → List Loc → Prop}
    (hown : s.vm.findClass own = some m.cls) (w1 : (Cond.methodLink own index y).before a0 Z = true) (w2 : (Cond.static y).before a0 Z = true) (w3 : (Cond.initialized y.cls).before a0 Z = true) (w4 : (Cond.code y bytes maxL ret).before a0 Z = true)
    (hy : y.cls ≠ "java/lang/invoke/MethodHandle" ∧ y.cls ≠ "java/lang/invoke/VarHandle")
    (hM : MetFree l y (head1 [Cond.code y bytes maxL ret] rm) (fun a U => a = as' ∧ Z.Warmed39 U.vm ∧ U.heap = h) (fun _ _ _ _ _ => True) (fun _ U o U' => ∃ v L, o = .returned v ∧ Q v U'.heap L ∧ FrameEnd U o U' L rm.cells rm.slots))
    (hf : rm.frames + 1 ≤ R.frames) {W : Nat} (hl : W + (maxL + 11) + rm.locals ≤ R.locals) {pc : Nat} {ls : Array Slot} {argsL rest : List Value} (hsize : ls.size = c.maxLocals) (hlen : ∀ sig, parseMethodDescriptor y.desc = some sig → argsL.length = sig.parameters.length)
    (has : argsL.toArray = as') (hW : (rest.map fun v => v.category).sum ≤ W) (hd : decode c.code pc = .ok (.invokestatic index, 3)) (eT : T.heap = h) (hcc : cells + rm.cells ≤ R.cells) (hss : slots + rm.slots ≤ R.slots) {P : Outcome → State → Prop}
    (k : ∀ T' L v, Stand p l e R s m args below meth c T' (locs ++ L) (cells + rm.cells) (slots + rm.slots) → Q v T'.heap L → Fin p e below (T'.setTop (mkF m (pc + 3) ls (v.toList ++ rest))) P) :
    Fin p e below (T.setTop (mkF m pc ls (argsL.reverse ++ rest))) P := by
  obtain ⟨v, _, ⟨T', L', k', n'⟩, -, X', ⟨L, hQ, e1, e2, e3⟩, st⟩ := Jvm.LawKit.callS X hx (y := y) hown (mvT hZ w1) (mvT hZ w2) (mvT hZ w3) (mvT hZ w4) hy (backOf (W := W) hM hZ w4 w3 hf hl) (g := mkF m pc ls (argsL.reverse ++ rest)) rfl hsize (argsL := argsL) (rest := rest) hlen rfl
    (by show 2 * 0 + _ ≤ _; omega) hd (fun _ _ => ⟨has, eT, hcc, hss⟩)
  dsimp only [Pt.U, Pt.locs, Pt.cells, Pt.slots] at X' e1 e2 e3 st hQ
  subst e1 e2 e3
  exact go st (k T' L v X' hQ)
theorem cI {Z : State} {a0 : Array Value} {h : Heap} (X : Stand p l e R s m args below meth c T locs cells slots) (hx : p.tables.exec = Jvm.exec) (hZ : Z.Warmed39 s.vm) {own : String} {index : Nat} {y : MethodName} {bytes : ByteArray} {maxL : Nat} {rm : Room} {as' : Array Value} {Q : Option Value → Heap → List Loc → Prop}
    (hy1 : y.name = "<init>") (hown : s.vm.findClass own = some m.cls) (w1 : (Cond.methodLink own index y).before a0 Z = true) (w2 : (Cond.instanceMethod y).before a0 Z = true) (w3 : (Cond.initialized y.cls).before a0 Z = true) (w4 : (Cond.code y bytes maxL none).before a0 Z = true)
    (hy : y.cls ≠ "java/lang/invoke/MethodHandle" ∧ y.cls ≠ "java/lang/invoke/VarHandle")
    (hM : MetFree l y (head1 [Cond.code y bytes maxL none] rm) (fun a U => a = as' ∧ Z.Warmed39 U.vm ∧ U.heap = h) (fun _ _ _ _ _ => True) (fun _ U o U' => ∃ v L, o = .returned v ∧ Q v U'.heap L ∧ FrameEnd U o U' L rm.cells rm.slots))
    (hf : rm.frames + 1 ≤ R.frames) {W : Nat} (hl : W + (maxL + 11) + rm.locals ≤ R.locals) {pc : Nat} {ls : Array Slot} {a : Addr} {argsL rest : List Value} (hsize : ls.size = c.maxLocals) (hlen : ∀ sig, parseMethodDescriptor y.desc = some sig → argsL.length = sig.parameters.length)
    (has : (Value.ref a :: argsL).toArray = as') (hW : (rest.map fun v => v.category).sum ≤ W) (hd : decode c.code pc = .ok (.invokespecial index, 3)) (eT : T.heap = h) (hcc : cells + rm.cells ≤ R.cells) (hss : slots + rm.slots ≤ R.slots) {P : Outcome → State → Prop}
    (k : ∀ T' L v, Stand p l e R s m args below meth c T' (locs ++ L) (cells + rm.cells) (slots + rm.slots) → Q v T'.heap L → Fin p e below (T'.setTop (mkF m (pc + 3) ls (v.toList ++ rest))) P) :
    Fin p e below (T.setTop (mkF m pc ls (argsL.reverse ++ .ref a :: rest))) P := by
  obtain ⟨v, _, ⟨T', L', k', n'⟩, -, X', ⟨L, hQ, e1, e2, e3⟩, st⟩ := X.specialBack hx (y := y) hy1 hown (mvT hZ w1) (mvT hZ w2) (mvT hZ w4) hy (backOf (W := W) hM hZ w4 w3 hf hl) (g := mkF m pc ls (argsL.reverse ++ .ref a :: rest)) rfl hsize (Steps.refl _) (a := a) (argsL := argsL) (rest := rest) hlen rfl
    (by show 2 * 0 + _ ≤ _; omega) hd (fun _ _ => ⟨has, eT, hcc, hss⟩)
  dsimp only [Pt.U, Pt.locs, Pt.cells, Pt.slots] at X' e1 e2 e3 st hQ
  subst e1 e2 e3
  exact go (fun t kt => st.trans kt) (k T' L v X' hQ)
theorem cV {Z : State} {a0 : Array Value} {h : Heap} (X : Stand p l e R s m args below meth c T locs cells slots) (hx : p.tables.exec = Jvm.exec) (hZ : Z.Warmed39 s.vm) {own C : String} {index : Nat} {y z : MethodName} {bytes : ByteArray} {maxL : Nat} {ret : Option FieldType} {rm : Room} {as' : Array Value} {Q : Option Value → Heap → List Loc → Prop}
    (hown : s.vm.findClass own = some m.cls) (w1 : (Cond.methodLink own index y).before a0 Z = true) (w2 : (Cond.declares y).before a0 Z = true) (hnf : NotFace s y) (w5 : (Cond.selects C y z).before a0 Z = true) (w6 : (Cond.instanceMethod z).before a0 Z = true) (w3 : (Cond.initialized z.cls).before a0 Z = true) (w4 : (Cond.code z bytes maxL ret).before a0 Z = true)
    (hy : y.cls ≠ "java/lang/invoke/MethodHandle" ∧ y.cls ≠ "java/lang/invoke/VarHandle")
    (hM : MetFree l z (head1 [Cond.code z bytes maxL ret] rm) (fun a U => a = as' ∧ Z.Warmed39 U.vm ∧ U.heap = h) (fun _ _ _ _ _ => True) (fun _ U o U' => ∃ v L, o = .returned v ∧ Q v U'.heap L ∧ FrameEnd U o U' L rm.cells rm.slots))
    (hf : rm.frames + 1 ≤ R.frames) {W : Nat} (hl : W + (maxL + 11) + rm.locals ≤ R.locals) {pc : Nat} {ls : Array Slot} {a : Addr} {argsL rest : List Value} (E : Exa Z h a C) (hsize : ls.size = c.maxLocals) (hlen : ∀ sig, parseMethodDescriptor y.desc = some sig → argsL.length = sig.parameters.length)
    (has : (Value.ref a :: argsL).toArray = as') (hW : (rest.map fun v => v.category).sum ≤ W) (hd : decode c.code pc = .ok (.invokevirtual index, 3)) (eT : T.heap = h) (hcc : cells + rm.cells ≤ R.cells) (hss : slots + rm.slots ≤ R.slots) {P : Outcome → State → Prop}
    (k : ∀ T' L v, Stand p l e R s m args below meth c T' (locs ++ L) (cells + rm.cells) (slots + rm.slots) → Q v T'.heap L → Fin p e below (T'.setTop (mkF m (pc + 3) ls (v.toList ++ rest))) P) :
    Fin p e below (T.setTop (mkF m pc ls (argsL.reverse ++ .ref a :: rest))) P := by
  obtain ⟨cq, kq, qa, qb, qc⟩ := isOf hZ eT E
  obtain ⟨v, _, ⟨T', L', k', n'⟩, -, X', ⟨L, hQ, e1, e2, e3⟩, st⟩ := X.virtualBack hx (y := y) (z := z) hown (mvT hZ w1) (mvT hZ w2) hnf (mvT hZ w5) (mvT hZ w6) hy (backOf (W := W) hM hZ w4 w3 hf hl) qa qc (g := mkF m pc ls (argsL.reverse ++ .ref a :: rest)) rfl hsize (Steps.refl _) (argsL := argsL) (rest := rest) hlen rfl
    (by show 2 * 0 + _ ≤ _; omega) hd (fun _ _ => ⟨has, eT, hcc, hss⟩)
  dsimp only [Pt.U, Pt.locs, Pt.cells, Pt.slots] at X' e1 e2 e3 st hQ
  subst e1 e2 e3
  exact go (fun t kt => st.trans kt) (k T' L v X' hQ)
theorem newA {Z : State} {a0 : Array Value} {h : Heap} (X : Stand p l e R s m args below meth c T locs cells slots) (hx : p.tables.exec = Jvm.exec) (hZ : Z.Warmed39 s.vm) {aty : ArrayType} (w : (Cond.arrayClass (newarray.typeOf aty)).before a0 Z = true) (eT : T.heap = h)
    {pc : Nat} {ls : Array Slot} {n : Int32} {rest : List Value} (hd : decode c.code pc = .ok (.newarray aty, 2)) (hn : ¬ n < 0) (cap : Nat) (hcap : n.toNatClampNeg ≤ cap) (hb : cap * 8 ≤ 536870912) (hc : cells + 1 ≤ R.cells) (hl : slots + cap ≤ R.slots) {P : Outcome → State → Prop}
    (k : ∀ T' h' b kA, Stand p l e R s m args below meth c T' locs (cells + 1) (slots + cap) → T'.heap = h' → Ext h h' → b = h.size → Arv Z h' b kA (newarray.typeOf aty) n [] (defaultValue (newarray.typeOf aty)) → Fin p e below (T'.setTop (mkF m (pc + 2) ls (.ref b :: rest))) P) :
    Fin p e below (T.setTop (mkF m pc ls (.int n :: rest))) P := by
  obtain ⟨T', h', kA, X', e', E', A', st⟩ := newP X hx hZ w eT (g := mkF m pc ls (.int n :: rest)) rfl hd rfl hn hcap hb hc hl
  exact go st (k T' h' _ kA X' e' E' rfl (Arv.new A' hn))
theorem stI {Z : State} {h : Heap} {a : Addr} {kA : ClassId} {z : Int32} {vs : List Value} {dv : Value} (X : Stand p l e R s m args below meth c T locs cells slots) (hx : p.tables.exec = Jvm.exec) (hZ : Z.Warmed39 s.vm) (eT : T.heap = h) (V : Arv Z h a kA .int z vs dv)
    {pc : Nat} {ls : Array Slot} {j x : Int32} {rest : List Value} (hd : decode c.code pc = .ok (.iastore, 1)) (hj : ¬ j < 0 ∧ j < z) (i : Nat) (hi : j.toNatClampNeg = i) (hlen : i < vs.length) {P : Outcome → State → Prop}
    (k : ∀ T' h', Stand p l e R s m args below meth c T' (locs ++ [⟨a, j.toNatClampNeg⟩]) cells slots → T'.heap = h' → Wr h h' a j.toNatClampNeg (.int x) → Arv Z h' a kA .int z (vs.set i (.int x)) dv → Fin p e below (T'.setTop (mkF m (pc + 1) ls rest)) P) :
    Fin p e below (T.setTop (mkF m pc ls (.int x :: .int j :: .ref a :: rest))) P := by
  obtain ⟨cl, Ar, q, S, N, H, G⟩ := V
  obtain ⟨T', h', X', e', W', st⟩ := RoadKit.stI X hx hZ eT Ar (j := j) (inb_of S hj) (g := mkF m pc ls (.int x :: .int j :: .ref a :: rest)) rfl rfl hd
  exact go st (k T' h' X' e' W' (Arv.set Ar q S N H G rfl W' i hi hlen))
theorem stJ {Z : State} {h : Heap} {a : Addr} {kA : ClassId} {z : Int32} {vs : List Value} {dv : Value} (X : Stand p l e R s m args below meth c T locs cells slots) (hx : p.tables.exec = Jvm.exec) (hZ : Z.Warmed39 s.vm) (eT : T.heap = h) (V : Arv Z h a kA .long z vs dv)
    {pc : Nat} {ls : Array Slot} {j : Int32} {x : Int64} {rest : List Value} (hd : decode c.code pc = .ok (.lastore, 1)) (hj : ¬ j < 0 ∧ j < z) (i : Nat) (hi : j.toNatClampNeg = i) (hlen : i < vs.length) {P : Outcome → State → Prop}
    (k : ∀ T' h', Stand p l e R s m args below meth c T' (locs ++ [⟨a, j.toNatClampNeg⟩]) cells slots → T'.heap = h' → Wr h h' a j.toNatClampNeg (.long x) → Arv Z h' a kA .long z (vs.set i (.long x)) dv → Fin p e below (T'.setTop (mkF m (pc + 1) ls rest)) P) :
    Fin p e below (T.setTop (mkF m pc ls (.long x :: .int j :: .ref a :: rest))) P := by
  obtain ⟨cl, Ar, q, S, N, H, G⟩ := V
  obtain ⟨T', h', X', e', W', st⟩ := RoadKit.stJ X hx hZ eT Ar (j := j) (inb_of S hj) (g := mkF m pc ls (.long x :: .int j :: .ref a :: rest)) rfl rfl hd
  exact go st (k T' h' X' e' W' (Arv.set Ar q S N H G rfl W' i hi hlen))
theorem stB {Z : State} {h : Heap} {a : Addr} {kA : ClassId} {z : Int32} {vs : List Value} {dv : Value} (X : Stand p l e R s m args below meth c T locs cells slots) (hx : p.tables.exec = Jvm.exec) (hZ : Z.Warmed39 s.vm) (eT : T.heap = h) (V : Arv Z h a kA .byte z vs dv)
    {pc : Nat} {ls : Array Slot} {j x : Int32} {rest : List Value} (hd : decode c.code pc = .ok (.bastore, 1)) (hj : ¬ j < 0 ∧ j < z) (i : Nat) (hi : j.toNatClampNeg = i) (hlen : i < vs.length) {P : Outcome → State → Prop}
    (k : ∀ T' h', Stand p l e R s m args below meth c T' (locs ++ [⟨a, j.toNatClampNeg⟩]) cells slots → T'.heap = h' → Wr h h' a j.toNatClampNeg (.int (nar .byte x)) → Arv Z h' a kA .byte z (vs.set i (.int (nar .byte x))) dv → Fin p e below (T'.setTop (mkF m (pc + 1) ls rest)) P) :
    Fin p e below (T.setTop (mkF m pc ls (.int x :: .int j :: .ref a :: rest))) P := by
  obtain ⟨cl, Ar, q, S, N, H, G⟩ := V
  obtain ⟨T', h', X', e', W', st⟩ := RoadKit.stB X hx hZ eT Ar (j := j) (inb_of S hj) (g := mkF m pc ls (.int x :: .int j :: .ref a :: rest)) rfl rfl hd
  exact go st (k T' h' X' e' W' (Arv.set Ar q S N H G (fits_nar_byte _) W' i hi hlen))
theorem stC {Z : State} {h : Heap} {a : Addr} {kA : ClassId} {z : Int32} {vs : List Value} {dv : Value} (X : Stand p l e R s m args below meth c T locs cells slots) (hx : p.tables.exec = Jvm.exec) (hZ : Z.Warmed39 s.vm) (eT : T.heap = h) (V : Arv Z h a kA .char z vs dv)
    {pc : Nat} {ls : Array Slot} {j x : Int32} {rest : List Value} (hd : decode c.code pc = .ok (.castore, 1)) (hj : ¬ j < 0 ∧ j < z) (i : Nat) (hi : j.toNatClampNeg = i) (hlen : i < vs.length) {P : Outcome → State → Prop}
    (k : ∀ T' h', Stand p l e R s m args below meth c T' (locs ++ [⟨a, j.toNatClampNeg⟩]) cells slots → T'.heap = h' → Wr h h' a j.toNatClampNeg (.int (nar .char x)) → Arv Z h' a kA .char z (vs.set i (.int (nar .char x))) dv → Fin p e below (T'.setTop (mkF m (pc + 1) ls rest)) P) :
    Fin p e below (T.setTop (mkF m pc ls (.int x :: .int j :: .ref a :: rest))) P := by
  obtain ⟨cl, Ar, q, S, N, H, G⟩ := V
  obtain ⟨T', h', X', e', W', st⟩ := RoadKit.stC X hx hZ eT Ar (j := j) (inb_of S hj) (g := mkF m pc ls (.int x :: .int j :: .ref a :: rest)) rfl rfl hd
  exact go st (k T' h' X' e' W' (Arv.set Ar q S N H G (fits_nar_char _) W' i hi hlen))
theorem alen {Z : State} {h : Heap} {a : Addr} {kA : ClassId} {ty : FieldType} {z : Int32} {vs : List Value} {dv : Value} (X : Stand p l e R s m args below meth c T locs cells slots) (hx : p.tables.exec = Jvm.exec) (hZ : Z.Warmed39 s.vm) (eT : T.heap = h) (V : Arv Z h a kA ty z vs dv)
    {pc : Nat} {ls : Array Slot} {rest : List Value} (hd : decode c.code pc = .ok (.arraylength, 1)) {P : Outcome → State → Prop} (k : Fin p e below (T.setTop (mkF m (pc + 1) ls (.int z :: rest))) P) :
    Fin p e below (T.setTop (mkF m pc ls (.ref a :: rest))) P := by
  obtain ⟨cl, Ar, q, S, N, H, G⟩ := V
  refine go (fun t kt => X.arraylength hx (by rw [eT]; exact Ar.1) (State.isArrayOf_alike hZ.alike Ar.2.1) (g := mkF m pc ls (.ref a :: rest)) rfl rfl hd t kt) ?_
  rw [len_of S N]
  exact k
theorem arv_at {Z : State} {h : Heap} {a : Addr} {kA : ClassId} {ty : FieldType} {z : Int32} {vs : List Value} {dv : Value} (V : Arv Z h a kA ty z vs dv) {j : Int32} (hj : ¬ j < 0 ∧ j < z) :
    ∃ cl, Arr Z h a cl ty ∧ ¬ (j < 0 ∨ cl.slots.size ≤ j.toNatClampNeg) ∧ cl.slots[j.toNatClampNeg]? = some (vs.getD j.toNatClampNeg dv) ∧ fits ty (vs.getD j.toNatClampNeg dv) = true := by
  obtain ⟨cl, Ar, q, S, N, H, G⟩ := V
  have hin := inb_of S hj
  have hlt : j.toNatClampNeg < cl.slots.size := Nat.lt_of_not_le fun q => hin (Or.inr q)
  exact ⟨cl, Ar, hin, H _ hlt, G _ hlt⟩
theorem ldI {Z : State} {h : Heap} {a : Addr} {kA : ClassId} {z : Int32} {vs : List Value} {dv : Value} (X : Stand p l e R s m args below meth c T locs cells slots) (hx : p.tables.exec = Jvm.exec) (hZ : Z.Warmed39 s.vm) (eT : T.heap = h) (V : Arv Z h a kA .int z vs dv)
    {pc : Nat} {ls : Array Slot} {j : Int32} {rest : List Value} (hd : decode c.code pc = .ok (.iaload, 1)) (hj : ¬ j < 0 ∧ j < z) {P : Outcome → State → Prop} (k : ∀ x, vs.getD j.toNatClampNeg dv = .int x → Fin p e below (T.setTop (mkF m (pc + 1) ls (.int x :: rest))) P) :
    Fin p e below (T.setTop (mkF m pc ls (.int j :: .ref a :: rest))) P := by
  obtain ⟨cl, Ar, hin, hat, hf⟩ := arv_at V hj
  obtain ⟨x, hx'⟩ := fit_I hf (Or.inl rfl)
  refine go (fun t kt => X.iaload hx (j := j) (v := .int x) (by rw [eT]; exact Ar.1) (State.isArrayOf_alike hZ.alike Ar.2.1) Ar.2.2 hin (by rw [hat, hx']) (g := mkF m pc ls (.int j :: .ref a :: rest)) rfl rfl hd t kt) (k x hx')
theorem ldJ {Z : State} {h : Heap} {a : Addr} {kA : ClassId} {z : Int32} {vs : List Value} {dv : Value} (X : Stand p l e R s m args below meth c T locs cells slots) (hx : p.tables.exec = Jvm.exec) (hZ : Z.Warmed39 s.vm) (eT : T.heap = h) (V : Arv Z h a kA .long z vs dv)
    {pc : Nat} {ls : Array Slot} {j : Int32} {rest : List Value} (hd : decode c.code pc = .ok (.laload, 1)) (hj : ¬ j < 0 ∧ j < z) {P : Outcome → State → Prop} (k : ∀ x, vs.getD j.toNatClampNeg dv = .long x → Fin p e below (T.setTop (mkF m (pc + 1) ls (.long x :: rest))) P) :
    Fin p e below (T.setTop (mkF m pc ls (.int j :: .ref a :: rest))) P := by
  obtain ⟨cl, Ar, hin, hat, hf⟩ := arv_at V hj
  obtain ⟨x, hx'⟩ := fit_J hf
  refine go (fun t kt => X.laload hx (j := j) (v := .long x) (by rw [eT]; exact Ar.1) (State.isArrayOf_alike hZ.alike Ar.2.1) Ar.2.2 hin (by rw [hat, hx']) (g := mkF m pc ls (.int j :: .ref a :: rest)) rfl rfl hd t kt) (k x hx')
theorem ldB {Z : State} {h : Heap} {a : Addr} {kA : ClassId} {z : Int32} {vs : List Value} {dv : Value} (X : Stand p l e R s m args below meth c T locs cells slots) (hx : p.tables.exec = Jvm.exec) (hZ : Z.Warmed39 s.vm) (eT : T.heap = h) (V : Arv Z h a kA .byte z vs dv)
    {pc : Nat} {ls : Array Slot} {j : Int32} {rest : List Value} (hd : decode c.code pc = .ok (.baload, 1)) (hj : ¬ j < 0 ∧ j < z) {P : Outcome → State → Prop} (k : ∀ x, vs.getD j.toNatClampNeg dv = .int x → Fin p e below (T.setTop (mkF m (pc + 1) ls (.int x :: rest))) P) :
    Fin p e below (T.setTop (mkF m pc ls (.int j :: .ref a :: rest))) P := by
  obtain ⟨cl, Ar, hin, hat, hf⟩ := arv_at V hj
  obtain ⟨x, hx'⟩ := fit_I hf (Or.inr (Or.inr (Or.inl rfl)))
  refine go (fun t kt => X.baloadBytes hx (j := j) (v := .int x) (by rw [eT]; exact Ar.1) (State.isArrayOf_alike hZ.alike Ar.2.1) Ar.2.2 hin (by rw [hat, hx']) (g := mkF m pc ls (.int j :: .ref a :: rest)) rfl rfl hd t kt) (k x hx')
theorem ldC {Z : State} {h : Heap} {a : Addr} {kA : ClassId} {z : Int32} {vs : List Value} {dv : Value} (X : Stand p l e R s m args below meth c T locs cells slots) (hx : p.tables.exec = Jvm.exec) (hZ : Z.Warmed39 s.vm) (eT : T.heap = h) (V : Arv Z h a kA .char z vs dv)
    {pc : Nat} {ls : Array Slot} {j : Int32} {rest : List Value} (hd : decode c.code pc = .ok (.caload, 1)) (hj : ¬ j < 0 ∧ j < z) {P : Outcome → State → Prop} (k : ∀ x, vs.getD j.toNatClampNeg dv = .int x → Fin p e below (T.setTop (mkF m (pc + 1) ls (.int x :: rest))) P) :
    Fin p e below (T.setTop (mkF m pc ls (.int j :: .ref a :: rest))) P := by
  obtain ⟨cl, Ar, hin, hat, hf⟩ := arv_at V hj
  obtain ⟨x, hx'⟩ := fit_I hf (Or.inr (Or.inr (Or.inr (Or.inl rfl))))
  refine go (fun t kt => X.caload hx (j := j) (v := .int x) (by rw [eT]; exact Ar.1) (State.isArrayOf_alike hZ.alike Ar.2.1) Ar.2.2 hin (by rw [hat, hx']) (g := mkF m pc ls (.int j :: .ref a :: rest)) rfl rfl hd t kt) (k x hx')
theorem ldR {Z : State} {h : Heap} {a : Addr} {kA : ClassId} {ty : FieldType} {z : Int32} {vs : List Value} {dv : Value} (X : Stand p l e R s m args below meth c T locs cells slots) (hx : p.tables.exec = Jvm.exec) (hZ : Z.Warmed39 s.vm) (eT : T.heap = h) (V : Arv Z h a kA ty z vs dv) (ht : ty.isReference = true)
    {pc : Nat} {ls : Array Slot} {j : Int32} {rest : List Value} (hd : decode c.code pc = .ok (.aaload, 1)) (hj : ¬ j < 0 ∧ j < z) {w : Value} (hv : vs.getD j.toNatClampNeg dv = w) {P : Outcome → State → Prop} (k : Fin p e below (T.setTop (mkF m (pc + 1) ls (w :: rest))) P) :
    Fin p e below (T.setTop (mkF m pc ls (.int j :: .ref a :: rest))) P := by
  obtain ⟨cl, Ar, hin, hat, hf⟩ := arv_at V hj
  exact go (fun t kt => X.aaload hx (j := j) (v := w) (by rw [eT]; exact Ar.1) (State.isArrayOf_alike hZ.alike Ar.2.1) ht Ar.2.2 hin (by rw [hat, hv]) (g := mkF m pc ls (.int j :: .ref a :: rest)) rfl rfl hd t kt) k
theorem ldBc {Z : State} {h : Heap} {a : Addr} {cl : Cell} (X : Stand p l e R s m args below meth c T locs cells slots) (hx : p.tables.exec = Jvm.exec) (hZ : Z.Warmed39 s.vm) (eT : T.heap = h) (A : Arr Z h a cl .byte)
    {pc : Nat} {ls : Array Slot} {j x : Int32} {rest : List Value} (hd : decode c.code pc = .ok (.baload, 1)) (hin : ¬ (j < 0 ∨ cl.slots.size ≤ j.toNatClampNeg)) (hv : cl.slots[j.toNatClampNeg]? = some (.int x)) {P : Outcome → State → Prop} (k : Fin p e below (T.setTop (mkF m (pc + 1) ls (.int x :: rest))) P) :
    Fin p e below (T.setTop (mkF m pc ls (.int j :: .ref a :: rest))) P :=
  go (fun t kt => X.baloadBytes hx (j := j) (v := .int x) (by rw [eT]; exact A.1) (State.isArrayOf_alike hZ.alike A.2.1) A.2.2 hin hv (g := mkF m pc ls (.int j :: .ref a :: rest)) rfl rfl hd t kt) k
theorem alenC {Z : State} {h : Heap} {a : Addr} {cl : Cell} {ty : FieldType} {z : Int32} (X : Stand p l e R s m args below meth c T locs cells slots) (hx : p.tables.exec = Jvm.exec) (hZ : Z.Warmed39 s.vm) (eT : T.heap = h) (A : Arr Z h a cl ty) (hz : cl.slots.size.toInt32 = z)
    {pc : Nat} {ls : Array Slot} {rest : List Value} (hd : decode c.code pc = .ok (.arraylength, 1)) {P : Outcome → State → Prop} (k : Fin p e below (T.setTop (mkF m (pc + 1) ls (.int z :: rest))) P) :
    Fin p e below (T.setTop (mkF m pc ls (.ref a :: rest))) P := by
  refine go (fun t kt => X.arraylength hx (by rw [eT]; exact A.1) (State.isArrayOf_alike hZ.alike A.2.1) (g := mkF m pc ls (.ref a :: rest)) rfl rfl hd t kt) ?_
  rw [hz]
  exact k
theorem retR (X : Stand p l e R s m args below meth c T locs cells slots) (hx : p.tables.exec = Jvm.exec) (hlk : meth.locks = false) {t : FieldType} (hret : meth.sig.returnType = some t) (ht : t.isReference = true) {pc : Nat} {Ls : Array Slot} {z : Value} (hz : z.isRef = true) {rest : List Value} (hd : decode c.code pc = .ok (.areturn, 1))
    {K : Option Value → Heap → List Loc → Prop} {cc ss : Nat} (hc : cells ≤ cc) (hs : slots ≤ ss) (hk : K (some z) T.heap locs) : Fin p e below (T.setTop (mkF m pc Ls (z :: rest))) (Post s K cc ss) := by
  refine retAny X (v := some z) hlk (fun h => by rw [hret] at h; cases h) (fun fs hl => ?_) hc hs hk
  have hm' : T.vm.method? m = some meth := X.method'
  show Steps p.tables e below (T.setTop { method := m, pc := pc, locals := Ls, stack := _ :: rest, locked := none }) _
  jvm_step X.here [X.here.top, hx, hd, hm', hret, ht, hz]
  first | (intro acts; rw [hl _ acts rfl rfl rfl]) | rw [hl _ _ rfl rfl rfl]
  exact Steps.refl _
theorem cP {Z : State} {a0 : Array Value} {h : Heap} (X : Stand p l e R s m args below meth c T locs cells slots) (hx : p.tables.exec = Jvm.exec) (hZ : Z.Warmed39 s.vm) {own C : String} {index : Nat} {y y' : MethodName} {bytes : ByteArray} {maxL : Nat} {ret : Option FieldType} {rm : Room} {as' : Array Value} {Q : Option Value → Heap → List Loc → Prop}
    (hown : s.vm.findClass own = some m.cls) (w1 : (Cond.methodLink own index y).before a0 Z = true) (w2 : (Cond.instanceMethod y).before a0 Z = true) (w5 : (Cond.privateMethod y).before a0 Z = true) (w7 : (Cond.selects C y' y').before a0 Z = true) (hcl : y'.cls = y.cls) (w3 : (Cond.initialized y.cls).before a0 Z = true) (w4 : (Cond.code y bytes maxL ret).before a0 Z = true)
    (hy : y.cls ≠ "java/lang/invoke/MethodHandle" ∧ y.cls ≠ "java/lang/invoke/VarHandle")
    (hM : MetFree l y (head1 [Cond.code y bytes maxL ret] rm) (fun a U => a = as' ∧ Z.Warmed39 U.vm ∧ U.heap = h) (fun _ _ _ _ _ => True) (fun _ U o U' => ∃ v L, o = .returned v ∧ Q v U'.heap L ∧ FrameEnd U o U' L rm.cells rm.slots))
    (hf : rm.frames + 1 ≤ R.frames) {W : Nat} (hl : W + (maxL + 11) + rm.locals ≤ R.locals) {pc : Nat} {ls : Array Slot} {a : Addr} {argsL rest : List Value} {C' : String} (E : Exa Z h a C') (hsize : ls.size = c.maxLocals) (hlen : ∀ sig, parseMethodDescriptor y.desc = some sig → argsL.length = sig.parameters.length)
    (has : (Value.ref a :: argsL).toArray = as') (hW : (rest.map fun v => v.category).sum ≤ W) (hd : decode c.code pc = .ok (.invokevirtual index, 3)) (eT : T.heap = h) (hcc : cells + rm.cells ≤ R.cells) (hss : slots + rm.slots ≤ R.slots) {P : Outcome → State → Prop}
    (k : ∀ T' L v, Stand p l e R s m args below meth c T' (locs ++ L) (cells + rm.cells) (slots + rm.slots) → Q v T'.heap L → Fin p e below (T'.setTop (mkF m (pc + 3) ls (v.toList ++ rest))) P) :
    Fin p e below (T.setTop (mkF m pc ls (argsL.reverse ++ .ref a :: rest))) P := by
  have hpr : s.PrivateAt y := Cond.privateMethod_at (mvP hZ w5 (args := #[]))
  have hsel : (Cond.selects y.cls y y).before args s = true := by
    obtain ⟨c2, r2, m2, q1, q2, q3, q4, kP, hkP, hkPi⟩ := Cond.selects_spec (mvT (args := args) hZ w7)
    exact selects_self_of_private (hcl ▸ findClass_of_methodNamed q3) hkP hkPi hpr (mvT hZ w2) hy
  obtain ⟨cq, q1, q2⟩ := E.cell
  obtain ⟨v, _, ⟨T', L', k', n'⟩, -, X', ⟨L, hQ, e1, e2, e3⟩, st⟩ := X.privateBack hx (y := y) hown (mvT hZ w1) (mvT hZ w2) hsel hpr (mvT hZ w4) hy (backOf (W := W) hM hZ w4 w3 hf hl) (g := mkF m pc ls (argsL.reverse ++ .ref a :: rest)) rfl hsize (Steps.refl _) (a := a) (by rw [eT]; exact q1) q2 (argsL := argsL) (rest := rest) hlen rfl
    (by show 2 * 0 + _ ≤ _; omega) hd (fun _ _ => ⟨has, eT, hcc, hss⟩)
  dsimp only [Pt.U, Pt.locs, Pt.cells, Pt.slots] at X' e1 e2 e3 st hQ
  subst e1 e2 e3
  exact go (fun t kt => st.trans kt) (k T' L v X' hQ)
end A
section B
variable {args : Array Value} {first s : State} {o : Option Outcome} {idx : List Nat} {a b : Term}
theorem eqR {y : Addr} (h : (Cond.eq a b).value args first o s idx = some true) (hb : b.eval args first o idx s = some (.ref y)) : a.eval args first o idx s = some (.ref y) := by
  obtain ⟨x', y', h1, h2, k1, k2⟩ := cmp_v (Or.inl h)
  cases hb.symm.trans h2
  have hx : x'.isRef = true := k2.2
  rw [h1, gotT (eq_R h1 hb hx rfl) h]
theorem eqI {y : Int32} (h : (Cond.eq a b).value args first o s idx = some true) (hb : b.eval args first o idx s = some (.int y)) : a.eval args first o idx s = some (.int y) := by
  obtain ⟨x', y', h1, h2, k1, k2⟩ := cmp_v (Or.inl h)
  cases hb.symm.trans h2
  obtain ⟨z, rfl⟩ := k2
  rw [h1, gotT (Cond.eq_ints h1 hb) h]
theorem len_at {y : Int32} (h : (Term.length a).eval args first o idx s = some (.int y)) : ∃ (x : Addr) (cell : Cell), a.eval args first o idx s = some (.ref x) ∧ s.arrayAt? x = some cell ∧ cell.slots.size < 2 ^ 31 ∧ cell.slots.size.toInt32 = y := by
  obtain ⟨b, cell, h1, h2, h3, h4⟩ := Jvm.Lib.length_spec h
  exact ⟨b, cell, h1, h2, h3, (Value.int.inj h4).symm⟩
end B
end Own
namespace Jvm.Pilot.@@N@@
open Jvm Jvm.ClassFile Sem Op Lib Jvm.Free Jvm.Stand Jvm.LawKit Jvm.RoadKit Bundle Jvm.Pilot.@@N@@.Jvm.D
def F_bucket (h : Int64) (k : Int32) : Int32 := (((h).toUInt64 >>> (((8 : Int32) * ((7 : Int32) - k)) &&& 0x3f).toInt64.toUInt64).toInt64).toInt32 &&& (255 : Int32)
def F_isByte (b : Int32) : Int32 := if b < 0 then 0 else if 255 < b then 0 else 1
theorem own_b8 (b : BitVec 64) : BitVec.signExtend 64 (BitVec.setWidth 32 b &&& 255#32) = b &&& 255#64 := by
  have hm : (BitVec.setWidth 32 b &&& 255#32).msb = false := by
    rw [BitVec.msb_and, show (255#32).msb = false by decide, Bool.and_false]
  rw [BitVec.signExtend_eq_setWidth_of_msb_false hm]
  apply BitVec.eq_of_toNat_eq
  have h1 : ∀ x : Nat, x &&& 255 = x % 256 := fun x => Nat.and_two_pow_sub_one_eq_mod x 8
  rw [BitVec.toNat_setWidth, BitVec.toNat_and, BitVec.toNat_and, BitVec.toNat_setWidth]
  show (b.toNat % 2 ^ 32 &&& 255) % 2 ^ 64 = b.toNat &&& 255
  rw [h1, h1]
  omega
theorem own_buck (h : Int64) (k : Int32) (n : Nat) (hk : (((8 : Int32) * ((7 : Int32) - k)) &&& 0x3f).toInt64.toUInt64.toNat = n) (hn : n < 64) : (F_bucket h k).toInt64.toBitVec = (h.toBitVec >>> n) &&& 255#64 := by
  unfold F_bucket
  generalize (((8 : Int32) * ((7 : Int32) - k)) &&& 0x3f).toInt64.toUInt64 = u at hk
  have e1 : ((h.toUInt64 >>> u).toInt64).toBitVec = h.toBitVec >>> n := by
    show (h.toUInt64 >>> u).toBitVec = _
    rw [UInt64.toBitVec_shiftRight]
    show h.toBitVec >>> (u.toBitVec % 64) = _
    rw [BitVec.ushiftRight_eq', BitVec.toNat_umod]
    congr 1
    show u.toNat % 64 = n
    rw [hk]; exact Nat.mod_eq_of_lt hn
  rw [← e1]
  generalize (h.toUInt64 >>> u).toInt64 = y
  rw [Int32.toBitVec_toInt64, Int32.toBitVec_and, Int64.toBitVec_toInt32, show (255 : Int32).toBitVec = 255#32 by decide, BitVec.signExtend_eq_setWidth_of_le y.toBitVec (by decide : 32 ≤ 64)]
  exact own_b8 _
theorem own_isB (h : Int64) (k : Int32) : F_isByte (F_bucket h k) = 1 := by
  unfold F_bucket
  generalize (((h).toUInt64 >>> (((8 : Int32) * ((7 : Int32) - k)) &&& 0x3f).toInt64.toUInt64).toInt64).toInt32 = u
  have h0 := c_and u 255 (by decide)
  rw [show (255 : Int32).toInt = 255 by decide] at h0
  have h1 : ¬ (u &&& (255 : Int32)) < 0 := by rw [Int32.lt_iff_toInt_lt, show (0 : Int32).toInt = 0 by decide]; omega
  have h2 : ¬ 255 < (u &&& (255 : Int32)) := by rw [Int32.lt_iff_toInt_lt, show (255 : Int32).toInt = 255 by decide]; omega
  simp only [F_isByte, h1, h2, if_false]
def F_cat (b0 b1 b2 b3 b4 b5 b6 b7 : Int32) : Int64 := (((((((((b0).toInt64 <<< ((56 : Int32) &&& 0x3f).toInt64) ||| ((b1).toInt64 <<< ((48 : Int32) &&& 0x3f).toInt64)) ||| ((b2).toInt64 <<< ((40 : Int32) &&& 0x3f).toInt64)) ||| ((b3).toInt64 <<< ((32 : Int32) &&& 0x3f).toInt64)) ||| ((b4).toInt64 <<< ((24 : Int32) &&& 0x3f).toInt64)) ||| ((b5).toInt64 <<< ((16 : Int32) &&& 0x3f).toInt64)) ||| ((b6).toInt64 <<< ((8 : Int32) &&& 0x3f).toInt64)) ||| (b7).toInt64)
theorem own_shl (x : Int64) (k : Int32) (n : Nat) (hk : (k &&& 0x3f).toInt64.toBitVec.smod 64 = BitVec.ofNat 64 n) (hn : n < 64) : (x <<< (k &&& 0x3f).toInt64).toBitVec = x.toBitVec <<< n := by
  rw [Int64.toBitVec_shiftLeft, hk]
  rw [BitVec.shiftLeft_eq']
  congr 1
  simp only [BitVec.toNat_ofNat]
  omega
theorem own_bits (h : BitVec 64) : (((((((((h >>> 56 &&& 255#64) <<< 56) ||| ((h >>> 48 &&& 255#64) <<< 48)) ||| ((h >>> 40 &&& 255#64) <<< 40)) ||| ((h >>> 32 &&& 255#64) <<< 32)) ||| ((h >>> 24 &&& 255#64) <<< 24)) ||| ((h >>> 16 &&& 255#64) <<< 16)) ||| ((h >>> 8 &&& 255#64) <<< 8)) ||| (h >>> 0 &&& 255#64)) = h := by
  apply BitVec.eq_of_getLsbD_eq
  intro i hi
  have hm : ∀ j, (255#64).getLsbD j = decide (j < 8) := by
    intro j
    rcases Nat.lt_or_ge j 64 with hj | hj
    · revert j; decide +kernel
    · rw [BitVec.getLsbD_of_ge _ _ hj]; simp; omega
  simp only [BitVec.getLsbD_or, BitVec.getLsbD_shiftLeft, BitVec.getLsbD_and, BitVec.getLsbD_ushiftRight, hm]
  have hs : ∀ s, s ≤ i → s + (i - s) = i := fun s q => by omega
  have key : ∀ s, (decide (i < 64) && !decide (i < s) && (h.getLsbD (s + (i - s)) && decide (i - s < 8))) = (decide (s ≤ i ∧ i < s + 8) && h.getLsbD i) := by
    intro s
    by_cases q : s ≤ i
    · rw [hs s q]
      have q1 : decide (i < s) = false := by simp; omega
      have q2 : decide (i < 64) = true := by simp; omega
      have q3 : decide (i - s < 8) = decide (s ≤ i ∧ i < s + 8) := by apply decide_eq_decide.mpr; omega
      rw [q1, q2, q3]; cases h.getLsbD i <;> simp
    · have q1 : decide (i < s) = true := by simp; omega
      have q3 : decide (s ≤ i ∧ i < s + 8) = false := by simp; omega
      rw [q1, q3]; simp
  rw [key, key, key, key, key, key, key]
  have z : (h.getLsbD (0 + i) && decide (i < 8)) = (decide (i < 8) && h.getLsbD i) := by rw [Nat.zero_add, Bool.and_comm]
  rw [z]
  cases h.getLsbD i
  · simp
  · simp only [Bool.and_true, ← Bool.decide_or, decide_eq_true_eq]
    omega
theorem own_law (h : Int64) : F_cat (F_bucket h 0) (F_bucket h 1) (F_bucket h 2) (F_bucket h 3) (F_bucket h 4) (F_bucket h 5) (F_bucket h 6) (F_bucket h 7) = h := by
  apply Int64.toBitVec_inj.mp
  unfold F_cat
  simp only [Int64.toBitVec_or]
  rw [own_shl _ 56 56 (by decide) (by decide), own_shl _ 48 48 (by decide) (by decide), own_shl _ 40 40 (by decide) (by decide), own_shl _ 32 32 (by decide) (by decide), own_shl _ 24 24 (by decide) (by decide), own_shl _ 16 16 (by decide) (by decide), own_shl _ 8 8 (by decide) (by decide)]
  rw [own_buck h 0 56 (by decide) (by decide), own_buck h 1 48 (by decide) (by decide), own_buck h 2 40 (by decide) (by decide), own_buck h 3 32 (by decide) (by decide), own_buck h 4 24 (by decide) (by decide), own_buck h 5 16 (by decide) (by decide), own_buck h 6 8 (by decide) (by decide), own_buck h 7 0 (by decide) (by decide)]
  exact own_bits _
theorem d1_0 : decode prog_99_method_3_code 0 = .ok (.lload_n 0, 1) := by decide +kernel
theorem d1_1 : decode prog_99_method_3_code 1 = .ok (.bipush 8, 2) := by decide +kernel
theorem d1_3 : decode prog_99_method_3_code 3 = .ok (.bipush 7, 2) := by decide +kernel
theorem d1_5 : decode prog_99_method_3_code 5 = .ok (.iload_n 2, 1) := by decide +kernel
theorem d1_6 : decode prog_99_method_3_code 6 = .ok (.isub, 1) := by decide +kernel
theorem d1_7 : decode prog_99_method_3_code 7 = .ok (.imul, 1) := by decide +kernel
theorem d1_8 : decode prog_99_method_3_code 8 = .ok (.lushr, 1) := by decide +kernel
theorem d1_9 : decode prog_99_method_3_code 9 = .ok (.l2i, 1) := by decide +kernel
theorem d1_10 : decode prog_99_method_3_code 10 = .ok (.sipush 255, 3) := by decide +kernel
theorem d1_13 : decode prog_99_method_3_code 13 = .ok (.iand, 1) := by decide +kernel
theorem d1_14 : decode prog_99_method_3_code 14 = .ok (.ireturn, 1) := by decide +kernel
theorem pn_1 : plainName "com/example/cairn/cairn/unixfs/Hamt" = true := by first | (simp [plainName, overriddenIn]; done) | decide +kernel
theorem ef_1 (m : MethodId) (q1 : Int64) (p2 : Int32) : entryFrame m #[(.long q1), (.int p2)] 3 = mkF m 0 #[.val (.long q1), .second, .val (.int p2)] [] := by first | (simp [entryFrame, mkF, argsToLocals, Value.category]; done) | rfl
def Q1 (Z : State) (q1 : Int64) (p2 : Int32)  (h0 : Heap) (n0 : Nat) : Option Value → Heap → List Loc → Prop := fun v h L => v = some (.int (F_bucket q1 p2)) ∧ Fr n0 L ∧ h = h0
set_option maxRecDepth 65536 in
set_option maxHeartbeats 40000000 in
theorem rm1 (l : Launch) (Z : State) (a0 : Array Value) (hw : ∀ d ∈ tables_1, d.before a0 Z = true) (ws : List Jvm.Cond) (q1 : Int64) (p2 : Int32)  (h0 : Heap) (n0 : Nat) (Z0 : n0 ≤ h0.size)  :
    MetFree l (⟨"com/example/cairn/cairn/unixfs/Hamt", "bucket", "(JI)I"⟩ : MethodName) (head1 (Jvm.Cond.code (⟨"com/example/cairn/cairn/unixfs/Hamt", "bucket", "(JI)I"⟩ : MethodName) prog_99_method_3_code 3 (some .int) :: ws) ({ frames := 0, cells := 0, slots := 0, locals := 0 } : Room)) (fun a U => a = #[(.long q1), (.int p2)] ∧ Z.Warmed39 U.vm ∧ U.heap = h0) (fun _ _ _ _ _ => True) (fun _ U o U' => ∃ v L, o = .returned v ∧ (Q1 Z q1 p2 h0 n0) v U'.heap L ∧ FrameEnd U o U' L ({ frames := 0, cells := 0, slots := 0, locals := 0 } : Room).cells ({ frames := 0, cells := 0, slots := 0, locals := 0 } : Room).slots) := by
  refine MetFree.of_bodySF (plainFor_of_name pn_1) hisR ?_
  intro p e s m args below meth c s₁ Bd hml0 hP hK
  obtain ⟨rfl, hZ, hh⟩ := hP
  have hx := Bd.exec
  have hby := Bd.bytes
  have hml : c.maxLocals = 3 := hml0
  have hown : s.vm.findClass "com/example/cairn/cairn/unixfs/Hamt" = some m.cls := findClass_of_methodNamed Bd.named
  have hnm := (name_of_methodNamed Bd.named Bd.method).1
  have X0 : Stand p l e ({ frames := 0, cells := 0, slots := 0, locals := 0 } : Room) s m #[(.long q1), (.int p2)] below meth c s₁ [] 0 0 := Stand.of_body Bd
  have e0 : s₁.heap = h0 := by rw [← hh, Bd.state]; rfl
  have N0 := Fr.nil n0
  show Own.Fin p e below _ (Own.Post s (Q1 Z q1 p2 h0 n0) ({ frames := 0, cells := 0, slots := 0, locals := 0 } : Room).cells ({ frames := 0, cells := 0, slots := 0, locals := 0 } : Room).slots)
  refine Own.start (ef_1 m q1 p2) ?_
  show Own.Fin p e below (s₁.setTop (mkF m 0 #[.val (.long q1), .second, .val (.int p2)] [])) _
  refine Own.go (fun t k => XS.lloadN X0.here hx rfl (hb hby d1_0) rfl k) ?_
  show Own.Fin p e below (s₁.setTop (mkF m 1 #[.val (.long q1), .second, .val (.int p2)] [(.long q1)])) _
  refine Own.go (fun t k => XS.bipush X0.here hx rfl (hb hby d1_1) k) ?_
  show Own.Fin p e below (s₁.setTop (mkF m 3 #[.val (.long q1), .second, .val (.int p2)] [(.int (8 : Int32)), (.long q1)])) _
  refine Own.go (fun t k => XS.bipush X0.here hx rfl (hb hby d1_3) k) ?_
  show Own.Fin p e below (s₁.setTop (mkF m 5 #[.val (.long q1), .second, .val (.int p2)] [(.int (7 : Int32)), (.int (8 : Int32)), (.long q1)])) _
  refine Own.go (fun t k => XS.iloadN X0.here hx rfl (hb hby d1_5) rfl k) ?_
  show Own.Fin p e below (s₁.setTop (mkF m 6 #[.val (.long q1), .second, .val (.int p2)] [(.int p2), (.int (7 : Int32)), (.int (8 : Int32)), (.long q1)])) _
  refine Own.go (fun t k => XS.isub X0.here hx rfl (hb hby d1_6) rfl k) ?_
  show Own.Fin p e below (s₁.setTop (mkF m 7 #[.val (.long q1), .second, .val (.int p2)] [(.int ((7 : Int32) - p2)), (.int (8 : Int32)), (.long q1)])) _
  refine Own.go (fun t k => XS.imul X0.here hx rfl (hb hby d1_7) rfl k) ?_
  show Own.Fin p e below (s₁.setTop (mkF m 8 #[.val (.long q1), .second, .val (.int p2)] [(.int ((8 : Int32) * ((7 : Int32) - p2))), (.long q1)])) _
  refine Own.go (fun t k => XS.lushr X0.here hx rfl (hb hby d1_8) rfl k) ?_
  show Own.Fin p e below (s₁.setTop (mkF m 9 #[.val (.long q1), .second, .val (.int p2)] [(.long (((q1).toUInt64 >>> (((8 : Int32) * ((7 : Int32) - p2)) &&& 0x3f).toInt64.toUInt64).toInt64))])) _
  refine Own.go (fun t k => XS.l2i X0.here hx rfl (hb hby d1_9) rfl k) ?_
  show Own.Fin p e below (s₁.setTop (mkF m 10 #[.val (.long q1), .second, .val (.int p2)] [(.int (((((q1).toUInt64 >>> (((8 : Int32) * ((7 : Int32) - p2)) &&& 0x3f).toInt64.toUInt64).toInt64)).toInt32))])) _
  refine Own.go (fun t k => XS.sipush X0.here hx rfl (hb hby d1_10) k) ?_
  show Own.Fin p e below (s₁.setTop (mkF m 13 #[.val (.long q1), .second, .val (.int p2)] [(.int (255 : Int32)), (.int (((((q1).toUInt64 >>> (((8 : Int32) * ((7 : Int32) - p2)) &&& 0x3f).toInt64.toUInt64).toInt64)).toInt32))])) _
  refine Own.go (fun t k => XS.iand X0.here hx rfl (hb hby d1_13) rfl k) ?_
  show Own.Fin p e below (s₁.setTop (mkF m 14 #[.val (.long q1), .second, .val (.int p2)] [(.int ((((((q1).toUInt64 >>> (((8 : Int32) * ((7 : Int32) - p2)) &&& 0x3f).toInt64.toUInt64).toInt64)).toInt32) &&& (255 : Int32)))])) _
  refine Own.retI X0 hx Bd.notSynchronized Bd.returns (hb hby d1_14) (by decide) (by decide) ?_
  exact ⟨rfl, N0, e0⟩
theorem d2_0 : decode method_2_code 0 = .ok (.iload_n 0, 1) := by decide +kernel
theorem d2_1 : decode method_2_code 1 = .ok (.ifCond .lt 14, 3) := by decide +kernel
theorem d2_4 : decode method_2_code 4 = .ok (.iload_n 0, 1) := by decide +kernel
theorem d2_5 : decode method_2_code 5 = .ok (.sipush 255, 3) := by decide +kernel
theorem d2_8 : decode method_2_code 8 = .ok (.if_icmp .gt 7, 3) := by decide +kernel
theorem d2_11 : decode method_2_code 11 = .ok (.iconst 1, 1) := by decide +kernel
theorem d2_12 : decode method_2_code 12 = .ok (.goto 4, 3) := by decide +kernel
theorem d2_15 : decode method_2_code 15 = .ok (.iconst 0, 1) := by decide +kernel
theorem d2_16 : decode method_2_code 16 = .ok (.ireturn, 1) := by decide +kernel
theorem pn_2 : plainName "com/example/cairn/cairn/unixfs/HamtBucketPinLaw" = true := by first | (simp [plainName, overriddenIn]; done) | decide +kernel
theorem ef_2 (m : MethodId) (p1 : Int32) : entryFrame m #[(.int p1)] 1 = mkF m 0 #[.val (.int p1)] [] := by first | (simp [entryFrame, mkF, argsToLocals, Value.category]; done) | rfl
def Q2 (Z : State) (p1 : Int32)  (h0 : Heap) (n0 : Nat) : Option Value → Heap → List Loc → Prop := fun v h L => v = some (.int (F_isByte p1)) ∧ Fr n0 L ∧ h = h0
set_option maxRecDepth 65536 in
set_option maxHeartbeats 40000000 in
theorem rm2 (l : Launch) (Z : State) (a0 : Array Value) (hw : ∀ d ∈ tables_1, d.before a0 Z = true) (ws : List Jvm.Cond) (p1 : Int32)  (h0 : Heap) (n0 : Nat) (Z0 : n0 ≤ h0.size)  :
    MetFree l (⟨"com/example/cairn/cairn/unixfs/HamtBucketPinLaw", "isByte", "(I)Z"⟩ : MethodName) (head1 (Jvm.Cond.code (⟨"com/example/cairn/cairn/unixfs/HamtBucketPinLaw", "isByte", "(I)Z"⟩ : MethodName) method_2_code 1 (some .boolean) :: ws) ({ frames := 0, cells := 0, slots := 0, locals := 0 } : Room)) (fun a U => a = #[(.int p1)] ∧ Z.Warmed39 U.vm ∧ U.heap = h0) (fun _ _ _ _ _ => True) (fun _ U o U' => ∃ v L, o = .returned v ∧ (Q2 Z p1 h0 n0) v U'.heap L ∧ FrameEnd U o U' L ({ frames := 0, cells := 0, slots := 0, locals := 0 } : Room).cells ({ frames := 0, cells := 0, slots := 0, locals := 0 } : Room).slots) := by
  refine MetFree.of_bodySF (plainFor_of_name pn_2) hisR ?_
  intro p e s m args below meth c s₁ Bd hml0 hP hK
  obtain ⟨rfl, hZ, hh⟩ := hP
  have hx := Bd.exec
  have hby := Bd.bytes
  have hml : c.maxLocals = 1 := hml0
  have hown : s.vm.findClass "com/example/cairn/cairn/unixfs/HamtBucketPinLaw" = some m.cls := findClass_of_methodNamed Bd.named
  have hnm := (name_of_methodNamed Bd.named Bd.method).1
  have X0 : Stand p l e ({ frames := 0, cells := 0, slots := 0, locals := 0 } : Room) s m #[(.int p1)] below meth c s₁ [] 0 0 := Stand.of_body Bd
  have e0 : s₁.heap = h0 := by rw [← hh, Bd.state]; rfl
  have N0 := Fr.nil n0
  show Own.Fin p e below _ (Own.Post s (Q2 Z p1 h0 n0) ({ frames := 0, cells := 0, slots := 0, locals := 0 } : Room).cells ({ frames := 0, cells := 0, slots := 0, locals := 0 } : Room).slots)
  refine Own.start (ef_2 m p1) ?_
  show Own.Fin p e below (s₁.setTop (mkF m 0 #[.val (.int p1)] [])) _
  refine Own.go (fun t k => XS.iloadN X0.here hx rfl (hb hby d2_0) rfl k) ?_
  show Own.Fin p e below (s₁.setTop (mkF m 1 #[.val (.int p1)] [(.int p1)])) _
  by_cases hc1_0 : p1 < (0 : Int32)
  · skip
    refine Own.go (fun t k => XS.ifYes X0.here hx rfl (pc0 := 1) (pc' := 15) rfl (hb hby d2_1) rfl ((if0 _ _).trans (tlt hc1_0).1) (by decide) (by decide) k) ?_
    show Own.Fin p e below (s₁.setTop (mkF m 15 #[.val (.int p1)] [])) _
    refine Own.go (fun t k => XS.iconst X0.here hx rfl (hb hby d2_15) k) ?_
    show Own.Fin p e below (s₁.setTop (mkF m 16 #[.val (.int p1)] [(.int (0 : Int32))])) _
    refine Own.retN X0 hx Bd.notSynchronized (t := .boolean) Bd.returns (by simp) (hb hby d2_16) (by decide) (by decide) ?_
    exact ⟨by rw [show F_isByte p1 = (0 : Int32) by simp [F_isByte, hc1_0]]; rfl, N0, e0⟩
  · skip
    refine Own.go (fun t k => XS.ifNo X0.here hx rfl (hb hby d2_1) rfl ((if0 _ _).trans (flt hc1_0).1) k) ?_
    show Own.Fin p e below (s₁.setTop (mkF m 4 #[.val (.int p1)] [])) _
    refine Own.go (fun t k => XS.iloadN X0.here hx rfl (hb hby d2_4) rfl k) ?_
    show Own.Fin p e below (s₁.setTop (mkF m 5 #[.val (.int p1)] [(.int p1)])) _
    refine Own.go (fun t k => XS.sipush X0.here hx rfl (hb hby d2_5) k) ?_
    show Own.Fin p e below (s₁.setTop (mkF m 8 #[.val (.int p1)] [(.int (255 : Int32)), (.int p1)])) _
    by_cases hc8_1 : (255 : Int32) < p1
    · skip
      refine Own.go (fun t k => XS.icmpYes X0.here hx rfl (pc0 := 8) (pc' := 15) rfl (hb hby d2_8) rfl (tlt hc8_1).2.2.1 (by decide) (by decide) k) ?_
      show Own.Fin p e below (s₁.setTop (mkF m 15 #[.val (.int p1)] [])) _
      refine Own.go (fun t k => XS.iconst X0.here hx rfl (hb hby d2_15) k) ?_
      show Own.Fin p e below (s₁.setTop (mkF m 16 #[.val (.int p1)] [(.int (0 : Int32))])) _
      refine Own.retN X0 hx Bd.notSynchronized (t := .boolean) Bd.returns (by simp) (hb hby d2_16) (by decide) (by decide) ?_
      exact ⟨by rw [show F_isByte p1 = (0 : Int32) by simp [F_isByte, hc1_0, hc8_1]]; rfl, N0, e0⟩
    · skip
      refine Own.go (fun t k => XS.icmpNo X0.here hx rfl (hb hby d2_8) rfl (flt hc8_1).2.2.1 k) ?_
      show Own.Fin p e below (s₁.setTop (mkF m 11 #[.val (.int p1)] [])) _
      refine Own.go (fun t k => XS.iconst X0.here hx rfl (hb hby d2_11) k) ?_
      show Own.Fin p e below (s₁.setTop (mkF m 12 #[.val (.int p1)] [(.int (1 : Int32))])) _
      refine Own.go (fun t k => XS.goto X0.here hx rfl (pc0 := 12) (pc' := 16) rfl (hb hby d2_12) (by decide) (by decide) k) ?_
      show Own.Fin p e below (s₁.setTop (mkF m 16 #[.val (.int p1)] [(.int (1 : Int32))])) _
      refine Own.retN X0 hx Bd.notSynchronized (t := .boolean) Bd.returns (by simp) (hb hby d2_16) (by decide) (by decide) ?_
      exact ⟨by rw [show F_isByte p1 = (1 : Int32) by simp [F_isByte, hc1_0, hc8_1]]; rfl, N0, e0⟩
theorem pd_1 : parseMethodDescriptor "(I)Z" = some ⟨[.int], some .boolean⟩ := by decide +kernel
theorem pd_0 : parseMethodDescriptor "(JI)I" = some ⟨[.long, .int], some .int⟩ := by decide +kernel
theorem pn_0 : plainName "com/example/cairn/cairn/unixfs/HamtBucketPinLaw" = true := by first | (simp [plainName, overriddenIn]; done) | decide +kernel
theorem ef_0 (m : MethodId) (q1 : Int64) : entryFrame m #[(.long q1)] maxLocals = mkF m 0 #[.val (.long q1), .second, .unset, .unset, .unset, .unset, .unset, .unset, .unset, .unset, .unset, .unset] [] := by first | (simp [entryFrame, mkF, argsToLocals, Value.category, maxLocals]; done) | rfl
def Q0 (Z : State) (q1 : Int64)  (h0 : Heap) (n0 : Nat) : Option Value → Heap → List Loc → Prop := fun v h L => v = some (.int 1) ∧ Fr n0 L
set_option maxRecDepth 65536 in
set_option maxHeartbeats 40000000 in
theorem rm0 (l : Launch) (Z : State) (a0 : Array Value) (hw : ∀ d ∈ tables_1, d.before a0 Z = true) (ws : List Jvm.Cond) (q1 : Int64)  (h0 : Heap) (n0 : Nat) (Z0 : n0 ≤ h0.size)  :
    MetFree l x (head1 (Jvm.Cond.code x code maxLocals ret :: ws) room_1) (fun a U => a = #[(.long q1)] ∧ Z.Warmed39 U.vm ∧ U.heap = h0) (fun _ _ _ _ _ => True) (fun _ U o U' => ∃ v L, o = .returned v ∧ (Q0 Z q1 h0 n0) v U'.heap L ∧ FrameEnd U o U' L room_1.cells room_1.slots) := by
  refine MetFree.of_bodySF (plainFor_of_name pn_0) hisR ?_
  intro p e s m args below meth c s₁ Bd hml0 hP hK
  obtain ⟨rfl, hZ, hh⟩ := hP
  have hx := Bd.exec
  have hby := Bd.bytes
  have hml : c.maxLocals = 12 := hml0
  have hown : s.vm.findClass "com/example/cairn/cairn/unixfs/HamtBucketPinLaw" = some m.cls := findClass_of_methodNamed Bd.named
  have hnm := (name_of_methodNamed Bd.named Bd.method).1
  have X0 : Stand p l e room_1 s m #[(.long q1)] below meth c s₁ [] 0 0 := Stand.of_body Bd
  have e0 : s₁.heap = h0 := by rw [← hh, Bd.state]; rfl
  have N0 := Fr.nil n0
  show Own.Fin p e below _ (Own.Post s (Q0 Z q1 h0 n0) room_1.cells room_1.slots)
  refine Own.start (ef_0 m q1) ?_
  show Own.Fin p e below (s₁.setTop (mkF m 0 #[.val (.long q1), .second, .unset, .unset, .unset, .unset, .unset, .unset, .unset, .unset, .unset, .unset] [])) _
  refine Own.go (fun t k => XS.lloadN X0.here hx rfl (hb hby at_0) rfl k) ?_
  show Own.Fin p e below (s₁.setTop (mkF m 1 #[.val (.long q1), .second, .unset, .unset, .unset, .unset, .unset, .unset, .unset, .unset, .unset, .unset] [(.long q1)])) _
  refine Own.go (fun t k => XS.iconst X0.here hx rfl (hb hby at_1) k) ?_
  show Own.Fin p e below (s₁.setTop (mkF m 2 #[.val (.long q1), .second, .unset, .unset, .unset, .unset, .unset, .unset, .unset, .unset, .unset, .unset] [(.int (0 : Int32)), (.long q1)])) _
  refine Own.cS X0 hx hZ hown (hw _ (List.mem_of_getElem? (i := 0) rfl)) (hw _ (List.mem_of_getElem? (i := 1) rfl)) (hw _ (List.mem_of_getElem? (i := 2) rfl)) (hw _ (List.mem_of_getElem? (i := 3) rfl)) (by decide) (rm1 l Z a0 hw [] q1 (0 : Int32) h0 n0 Z0 ) (by decide) (W := 0) (by decide) (argsL := [(.long q1), (.int (0 : Int32))]) (rest := []) (by rw [hml]; rfl) (lenOf pd_0 rfl) rfl (Nat.le_of_eq rfl) (hb hby at_2) e0 (by decide) (by decide) ?_
  intro T1 L1 v1 X1 hQ1
  obtain ⟨rfl, N1q, e1⟩ := hQ1
  have N1 := Fr.app N0 N1q
  show Own.Fin p e below (T1.setTop (mkF m 5 #[.val (.long q1), .second, .unset, .unset, .unset, .unset, .unset, .unset, .unset, .unset, .unset, .unset] [(.int (F_bucket q1 (0 : Int32)))])) _
  refine Own.go (fun t k => XS.istoreN X1.here hx rfl (hb hby at_5) rfl (l' := #[.val (.long q1), .second, .val (.int (F_bucket q1 (0 : Int32))), .unset, .unset, .unset, .unset, .unset, .unset, .unset, .unset, .unset]) rfl k) ?_
  show Own.Fin p e below (T1.setTop (mkF m 6 #[.val (.long q1), .second, .val (.int (F_bucket q1 (0 : Int32))), .unset, .unset, .unset, .unset, .unset, .unset, .unset, .unset, .unset] [])) _
  refine Own.go (fun t k => XS.lloadN X1.here hx rfl (hb hby at_6) rfl k) ?_
  show Own.Fin p e below (T1.setTop (mkF m 7 #[.val (.long q1), .second, .val (.int (F_bucket q1 (0 : Int32))), .unset, .unset, .unset, .unset, .unset, .unset, .unset, .unset, .unset] [(.long q1)])) _
  refine Own.go (fun t k => XS.iconst X1.here hx rfl (hb hby at_7) k) ?_
  show Own.Fin p e below (T1.setTop (mkF m 8 #[.val (.long q1), .second, .val (.int (F_bucket q1 (0 : Int32))), .unset, .unset, .unset, .unset, .unset, .unset, .unset, .unset, .unset] [(.int (1 : Int32)), (.long q1)])) _
  refine Own.cS X1 hx hZ hown (hw _ (List.mem_of_getElem? (i := 0) rfl)) (hw _ (List.mem_of_getElem? (i := 1) rfl)) (hw _ (List.mem_of_getElem? (i := 2) rfl)) (hw _ (List.mem_of_getElem? (i := 3) rfl)) (by decide) (rm1 l Z a0 hw [] q1 (1 : Int32) h0 n0 Z0 ) (by decide) (W := 0) (by decide) (argsL := [(.long q1), (.int (1 : Int32))]) (rest := []) (by rw [hml]; rfl) (lenOf pd_0 rfl) rfl (Nat.le_of_eq rfl) (hb hby at_8) e1 (by decide) (by decide) ?_
  intro T2 L2 v2 X2 hQ2
  obtain ⟨rfl, N2q, e2⟩ := hQ2
  have N2 := Fr.app N1 N2q
  show Own.Fin p e below (T2.setTop (mkF m 11 #[.val (.long q1), .second, .val (.int (F_bucket q1 (0 : Int32))), .unset, .unset, .unset, .unset, .unset, .unset, .unset, .unset, .unset] [(.int (F_bucket q1 (1 : Int32)))])) _
  refine Own.go (fun t k => XS.istoreN X2.here hx rfl (hb hby at_11) rfl (l' := #[.val (.long q1), .second, .val (.int (F_bucket q1 (0 : Int32))), .val (.int (F_bucket q1 (1 : Int32))), .unset, .unset, .unset, .unset, .unset, .unset, .unset, .unset]) rfl k) ?_
  show Own.Fin p e below (T2.setTop (mkF m 12 #[.val (.long q1), .second, .val (.int (F_bucket q1 (0 : Int32))), .val (.int (F_bucket q1 (1 : Int32))), .unset, .unset, .unset, .unset, .unset, .unset, .unset, .unset] [])) _
  refine Own.go (fun t k => XS.lloadN X2.here hx rfl (hb hby at_12) rfl k) ?_
  show Own.Fin p e below (T2.setTop (mkF m 13 #[.val (.long q1), .second, .val (.int (F_bucket q1 (0 : Int32))), .val (.int (F_bucket q1 (1 : Int32))), .unset, .unset, .unset, .unset, .unset, .unset, .unset, .unset] [(.long q1)])) _
  refine Own.go (fun t k => XS.iconst X2.here hx rfl (hb hby at_13) k) ?_
  show Own.Fin p e below (T2.setTop (mkF m 14 #[.val (.long q1), .second, .val (.int (F_bucket q1 (0 : Int32))), .val (.int (F_bucket q1 (1 : Int32))), .unset, .unset, .unset, .unset, .unset, .unset, .unset, .unset] [(.int (2 : Int32)), (.long q1)])) _
  refine Own.cS X2 hx hZ hown (hw _ (List.mem_of_getElem? (i := 0) rfl)) (hw _ (List.mem_of_getElem? (i := 1) rfl)) (hw _ (List.mem_of_getElem? (i := 2) rfl)) (hw _ (List.mem_of_getElem? (i := 3) rfl)) (by decide) (rm1 l Z a0 hw [] q1 (2 : Int32) h0 n0 Z0 ) (by decide) (W := 0) (by decide) (argsL := [(.long q1), (.int (2 : Int32))]) (rest := []) (by rw [hml]; rfl) (lenOf pd_0 rfl) rfl (Nat.le_of_eq rfl) (hb hby at_14) e2 (by decide) (by decide) ?_
  intro T3 L3 v3 X3 hQ3
  obtain ⟨rfl, N3q, e3⟩ := hQ3
  have N3 := Fr.app N2 N3q
  show Own.Fin p e below (T3.setTop (mkF m 17 #[.val (.long q1), .second, .val (.int (F_bucket q1 (0 : Int32))), .val (.int (F_bucket q1 (1 : Int32))), .unset, .unset, .unset, .unset, .unset, .unset, .unset, .unset] [(.int (F_bucket q1 (2 : Int32)))])) _
  refine Own.go (fun t k => XS.istore X3.here hx rfl (hb hby at_17) rfl (l' := #[.val (.long q1), .second, .val (.int (F_bucket q1 (0 : Int32))), .val (.int (F_bucket q1 (1 : Int32))), .val (.int (F_bucket q1 (2 : Int32))), .unset, .unset, .unset, .unset, .unset, .unset, .unset]) rfl k) ?_
  show Own.Fin p e below (T3.setTop (mkF m 19 #[.val (.long q1), .second, .val (.int (F_bucket q1 (0 : Int32))), .val (.int (F_bucket q1 (1 : Int32))), .val (.int (F_bucket q1 (2 : Int32))), .unset, .unset, .unset, .unset, .unset, .unset, .unset] [])) _
  refine Own.go (fun t k => XS.lloadN X3.here hx rfl (hb hby at_19) rfl k) ?_
  show Own.Fin p e below (T3.setTop (mkF m 20 #[.val (.long q1), .second, .val (.int (F_bucket q1 (0 : Int32))), .val (.int (F_bucket q1 (1 : Int32))), .val (.int (F_bucket q1 (2 : Int32))), .unset, .unset, .unset, .unset, .unset, .unset, .unset] [(.long q1)])) _
  refine Own.go (fun t k => XS.iconst X3.here hx rfl (hb hby at_20) k) ?_
  show Own.Fin p e below (T3.setTop (mkF m 21 #[.val (.long q1), .second, .val (.int (F_bucket q1 (0 : Int32))), .val (.int (F_bucket q1 (1 : Int32))), .val (.int (F_bucket q1 (2 : Int32))), .unset, .unset, .unset, .unset, .unset, .unset, .unset] [(.int (3 : Int32)), (.long q1)])) _
  refine Own.cS X3 hx hZ hown (hw _ (List.mem_of_getElem? (i := 0) rfl)) (hw _ (List.mem_of_getElem? (i := 1) rfl)) (hw _ (List.mem_of_getElem? (i := 2) rfl)) (hw _ (List.mem_of_getElem? (i := 3) rfl)) (by decide) (rm1 l Z a0 hw [] q1 (3 : Int32) h0 n0 Z0 ) (by decide) (W := 0) (by decide) (argsL := [(.long q1), (.int (3 : Int32))]) (rest := []) (by rw [hml]; rfl) (lenOf pd_0 rfl) rfl (Nat.le_of_eq rfl) (hb hby at_21) e3 (by decide) (by decide) ?_
  intro T4 L4 v4 X4 hQ4
  obtain ⟨rfl, N4q, e4⟩ := hQ4
  have N4 := Fr.app N3 N4q
  show Own.Fin p e below (T4.setTop (mkF m 24 #[.val (.long q1), .second, .val (.int (F_bucket q1 (0 : Int32))), .val (.int (F_bucket q1 (1 : Int32))), .val (.int (F_bucket q1 (2 : Int32))), .unset, .unset, .unset, .unset, .unset, .unset, .unset] [(.int (F_bucket q1 (3 : Int32)))])) _
  refine Own.go (fun t k => XS.istore X4.here hx rfl (hb hby at_24) rfl (l' := #[.val (.long q1), .second, .val (.int (F_bucket q1 (0 : Int32))), .val (.int (F_bucket q1 (1 : Int32))), .val (.int (F_bucket q1 (2 : Int32))), .val (.int (F_bucket q1 (3 : Int32))), .unset, .unset, .unset, .unset, .unset, .unset]) rfl k) ?_
  show Own.Fin p e below (T4.setTop (mkF m 26 #[.val (.long q1), .second, .val (.int (F_bucket q1 (0 : Int32))), .val (.int (F_bucket q1 (1 : Int32))), .val (.int (F_bucket q1 (2 : Int32))), .val (.int (F_bucket q1 (3 : Int32))), .unset, .unset, .unset, .unset, .unset, .unset] [])) _
  refine Own.go (fun t k => XS.lloadN X4.here hx rfl (hb hby at_26) rfl k) ?_
  show Own.Fin p e below (T4.setTop (mkF m 27 #[.val (.long q1), .second, .val (.int (F_bucket q1 (0 : Int32))), .val (.int (F_bucket q1 (1 : Int32))), .val (.int (F_bucket q1 (2 : Int32))), .val (.int (F_bucket q1 (3 : Int32))), .unset, .unset, .unset, .unset, .unset, .unset] [(.long q1)])) _
  refine Own.go (fun t k => XS.iconst X4.here hx rfl (hb hby at_27) k) ?_
  show Own.Fin p e below (T4.setTop (mkF m 28 #[.val (.long q1), .second, .val (.int (F_bucket q1 (0 : Int32))), .val (.int (F_bucket q1 (1 : Int32))), .val (.int (F_bucket q1 (2 : Int32))), .val (.int (F_bucket q1 (3 : Int32))), .unset, .unset, .unset, .unset, .unset, .unset] [(.int (4 : Int32)), (.long q1)])) _
  refine Own.cS X4 hx hZ hown (hw _ (List.mem_of_getElem? (i := 0) rfl)) (hw _ (List.mem_of_getElem? (i := 1) rfl)) (hw _ (List.mem_of_getElem? (i := 2) rfl)) (hw _ (List.mem_of_getElem? (i := 3) rfl)) (by decide) (rm1 l Z a0 hw [] q1 (4 : Int32) h0 n0 Z0 ) (by decide) (W := 0) (by decide) (argsL := [(.long q1), (.int (4 : Int32))]) (rest := []) (by rw [hml]; rfl) (lenOf pd_0 rfl) rfl (Nat.le_of_eq rfl) (hb hby at_28) e4 (by decide) (by decide) ?_
  intro T5 L5 v5 X5 hQ5
  obtain ⟨rfl, N5q, e5⟩ := hQ5
  have N5 := Fr.app N4 N5q
  show Own.Fin p e below (T5.setTop (mkF m 31 #[.val (.long q1), .second, .val (.int (F_bucket q1 (0 : Int32))), .val (.int (F_bucket q1 (1 : Int32))), .val (.int (F_bucket q1 (2 : Int32))), .val (.int (F_bucket q1 (3 : Int32))), .unset, .unset, .unset, .unset, .unset, .unset] [(.int (F_bucket q1 (4 : Int32)))])) _
  refine Own.go (fun t k => XS.istore X5.here hx rfl (hb hby at_31) rfl (l' := #[.val (.long q1), .second, .val (.int (F_bucket q1 (0 : Int32))), .val (.int (F_bucket q1 (1 : Int32))), .val (.int (F_bucket q1 (2 : Int32))), .val (.int (F_bucket q1 (3 : Int32))), .val (.int (F_bucket q1 (4 : Int32))), .unset, .unset, .unset, .unset, .unset]) rfl k) ?_
  show Own.Fin p e below (T5.setTop (mkF m 33 #[.val (.long q1), .second, .val (.int (F_bucket q1 (0 : Int32))), .val (.int (F_bucket q1 (1 : Int32))), .val (.int (F_bucket q1 (2 : Int32))), .val (.int (F_bucket q1 (3 : Int32))), .val (.int (F_bucket q1 (4 : Int32))), .unset, .unset, .unset, .unset, .unset] [])) _
  refine Own.go (fun t k => XS.lloadN X5.here hx rfl (hb hby at_33) rfl k) ?_
  show Own.Fin p e below (T5.setTop (mkF m 34 #[.val (.long q1), .second, .val (.int (F_bucket q1 (0 : Int32))), .val (.int (F_bucket q1 (1 : Int32))), .val (.int (F_bucket q1 (2 : Int32))), .val (.int (F_bucket q1 (3 : Int32))), .val (.int (F_bucket q1 (4 : Int32))), .unset, .unset, .unset, .unset, .unset] [(.long q1)])) _
  refine Own.go (fun t k => XS.iconst X5.here hx rfl (hb hby at_34) k) ?_
  show Own.Fin p e below (T5.setTop (mkF m 35 #[.val (.long q1), .second, .val (.int (F_bucket q1 (0 : Int32))), .val (.int (F_bucket q1 (1 : Int32))), .val (.int (F_bucket q1 (2 : Int32))), .val (.int (F_bucket q1 (3 : Int32))), .val (.int (F_bucket q1 (4 : Int32))), .unset, .unset, .unset, .unset, .unset] [(.int (5 : Int32)), (.long q1)])) _
  refine Own.cS X5 hx hZ hown (hw _ (List.mem_of_getElem? (i := 0) rfl)) (hw _ (List.mem_of_getElem? (i := 1) rfl)) (hw _ (List.mem_of_getElem? (i := 2) rfl)) (hw _ (List.mem_of_getElem? (i := 3) rfl)) (by decide) (rm1 l Z a0 hw [] q1 (5 : Int32) h0 n0 Z0 ) (by decide) (W := 0) (by decide) (argsL := [(.long q1), (.int (5 : Int32))]) (rest := []) (by rw [hml]; rfl) (lenOf pd_0 rfl) rfl (Nat.le_of_eq rfl) (hb hby at_35) e5 (by decide) (by decide) ?_
  intro T6 L6 v6 X6 hQ6
  obtain ⟨rfl, N6q, e6⟩ := hQ6
  have N6 := Fr.app N5 N6q
  show Own.Fin p e below (T6.setTop (mkF m 38 #[.val (.long q1), .second, .val (.int (F_bucket q1 (0 : Int32))), .val (.int (F_bucket q1 (1 : Int32))), .val (.int (F_bucket q1 (2 : Int32))), .val (.int (F_bucket q1 (3 : Int32))), .val (.int (F_bucket q1 (4 : Int32))), .unset, .unset, .unset, .unset, .unset] [(.int (F_bucket q1 (5 : Int32)))])) _
  refine Own.go (fun t k => XS.istore X6.here hx rfl (hb hby at_38) rfl (l' := #[.val (.long q1), .second, .val (.int (F_bucket q1 (0 : Int32))), .val (.int (F_bucket q1 (1 : Int32))), .val (.int (F_bucket q1 (2 : Int32))), .val (.int (F_bucket q1 (3 : Int32))), .val (.int (F_bucket q1 (4 : Int32))), .val (.int (F_bucket q1 (5 : Int32))), .unset, .unset, .unset, .unset]) rfl k) ?_
  show Own.Fin p e below (T6.setTop (mkF m 40 #[.val (.long q1), .second, .val (.int (F_bucket q1 (0 : Int32))), .val (.int (F_bucket q1 (1 : Int32))), .val (.int (F_bucket q1 (2 : Int32))), .val (.int (F_bucket q1 (3 : Int32))), .val (.int (F_bucket q1 (4 : Int32))), .val (.int (F_bucket q1 (5 : Int32))), .unset, .unset, .unset, .unset] [])) _
  refine Own.go (fun t k => XS.lloadN X6.here hx rfl (hb hby at_40) rfl k) ?_
  show Own.Fin p e below (T6.setTop (mkF m 41 #[.val (.long q1), .second, .val (.int (F_bucket q1 (0 : Int32))), .val (.int (F_bucket q1 (1 : Int32))), .val (.int (F_bucket q1 (2 : Int32))), .val (.int (F_bucket q1 (3 : Int32))), .val (.int (F_bucket q1 (4 : Int32))), .val (.int (F_bucket q1 (5 : Int32))), .unset, .unset, .unset, .unset] [(.long q1)])) _
  refine Own.go (fun t k => XS.bipush X6.here hx rfl (hb hby at_41) k) ?_
  show Own.Fin p e below (T6.setTop (mkF m 43 #[.val (.long q1), .second, .val (.int (F_bucket q1 (0 : Int32))), .val (.int (F_bucket q1 (1 : Int32))), .val (.int (F_bucket q1 (2 : Int32))), .val (.int (F_bucket q1 (3 : Int32))), .val (.int (F_bucket q1 (4 : Int32))), .val (.int (F_bucket q1 (5 : Int32))), .unset, .unset, .unset, .unset] [(.int (6 : Int32)), (.long q1)])) _
  refine Own.cS X6 hx hZ hown (hw _ (List.mem_of_getElem? (i := 0) rfl)) (hw _ (List.mem_of_getElem? (i := 1) rfl)) (hw _ (List.mem_of_getElem? (i := 2) rfl)) (hw _ (List.mem_of_getElem? (i := 3) rfl)) (by decide) (rm1 l Z a0 hw [] q1 (6 : Int32) h0 n0 Z0 ) (by decide) (W := 0) (by decide) (argsL := [(.long q1), (.int (6 : Int32))]) (rest := []) (by rw [hml]; rfl) (lenOf pd_0 rfl) rfl (Nat.le_of_eq rfl) (hb hby at_43) e6 (by decide) (by decide) ?_
  intro T7 L7 v7 X7 hQ7
  obtain ⟨rfl, N7q, e7⟩ := hQ7
  have N7 := Fr.app N6 N7q
  show Own.Fin p e below (T7.setTop (mkF m 46 #[.val (.long q1), .second, .val (.int (F_bucket q1 (0 : Int32))), .val (.int (F_bucket q1 (1 : Int32))), .val (.int (F_bucket q1 (2 : Int32))), .val (.int (F_bucket q1 (3 : Int32))), .val (.int (F_bucket q1 (4 : Int32))), .val (.int (F_bucket q1 (5 : Int32))), .unset, .unset, .unset, .unset] [(.int (F_bucket q1 (6 : Int32)))])) _
  refine Own.go (fun t k => XS.istore X7.here hx rfl (hb hby at_46) rfl (l' := #[.val (.long q1), .second, .val (.int (F_bucket q1 (0 : Int32))), .val (.int (F_bucket q1 (1 : Int32))), .val (.int (F_bucket q1 (2 : Int32))), .val (.int (F_bucket q1 (3 : Int32))), .val (.int (F_bucket q1 (4 : Int32))), .val (.int (F_bucket q1 (5 : Int32))), .val (.int (F_bucket q1 (6 : Int32))), .unset, .unset, .unset]) rfl k) ?_
  show Own.Fin p e below (T7.setTop (mkF m 48 #[.val (.long q1), .second, .val (.int (F_bucket q1 (0 : Int32))), .val (.int (F_bucket q1 (1 : Int32))), .val (.int (F_bucket q1 (2 : Int32))), .val (.int (F_bucket q1 (3 : Int32))), .val (.int (F_bucket q1 (4 : Int32))), .val (.int (F_bucket q1 (5 : Int32))), .val (.int (F_bucket q1 (6 : Int32))), .unset, .unset, .unset] [])) _
  refine Own.go (fun t k => XS.lloadN X7.here hx rfl (hb hby at_48) rfl k) ?_
  show Own.Fin p e below (T7.setTop (mkF m 49 #[.val (.long q1), .second, .val (.int (F_bucket q1 (0 : Int32))), .val (.int (F_bucket q1 (1 : Int32))), .val (.int (F_bucket q1 (2 : Int32))), .val (.int (F_bucket q1 (3 : Int32))), .val (.int (F_bucket q1 (4 : Int32))), .val (.int (F_bucket q1 (5 : Int32))), .val (.int (F_bucket q1 (6 : Int32))), .unset, .unset, .unset] [(.long q1)])) _
  refine Own.go (fun t k => XS.bipush X7.here hx rfl (hb hby at_49) k) ?_
  show Own.Fin p e below (T7.setTop (mkF m 51 #[.val (.long q1), .second, .val (.int (F_bucket q1 (0 : Int32))), .val (.int (F_bucket q1 (1 : Int32))), .val (.int (F_bucket q1 (2 : Int32))), .val (.int (F_bucket q1 (3 : Int32))), .val (.int (F_bucket q1 (4 : Int32))), .val (.int (F_bucket q1 (5 : Int32))), .val (.int (F_bucket q1 (6 : Int32))), .unset, .unset, .unset] [(.int (7 : Int32)), (.long q1)])) _
  refine Own.cS X7 hx hZ hown (hw _ (List.mem_of_getElem? (i := 0) rfl)) (hw _ (List.mem_of_getElem? (i := 1) rfl)) (hw _ (List.mem_of_getElem? (i := 2) rfl)) (hw _ (List.mem_of_getElem? (i := 3) rfl)) (by decide) (rm1 l Z a0 hw [] q1 (7 : Int32) h0 n0 Z0 ) (by decide) (W := 0) (by decide) (argsL := [(.long q1), (.int (7 : Int32))]) (rest := []) (by rw [hml]; rfl) (lenOf pd_0 rfl) rfl (Nat.le_of_eq rfl) (hb hby at_51) e7 (by decide) (by decide) ?_
  intro T8 L8 v8 X8 hQ8
  obtain ⟨rfl, N8q, e8⟩ := hQ8
  have N8 := Fr.app N7 N8q
  show Own.Fin p e below (T8.setTop (mkF m 54 #[.val (.long q1), .second, .val (.int (F_bucket q1 (0 : Int32))), .val (.int (F_bucket q1 (1 : Int32))), .val (.int (F_bucket q1 (2 : Int32))), .val (.int (F_bucket q1 (3 : Int32))), .val (.int (F_bucket q1 (4 : Int32))), .val (.int (F_bucket q1 (5 : Int32))), .val (.int (F_bucket q1 (6 : Int32))), .unset, .unset, .unset] [(.int (F_bucket q1 (7 : Int32)))])) _
  refine Own.go (fun t k => XS.istore X8.here hx rfl (hb hby at_54) rfl (l' := #[.val (.long q1), .second, .val (.int (F_bucket q1 (0 : Int32))), .val (.int (F_bucket q1 (1 : Int32))), .val (.int (F_bucket q1 (2 : Int32))), .val (.int (F_bucket q1 (3 : Int32))), .val (.int (F_bucket q1 (4 : Int32))), .val (.int (F_bucket q1 (5 : Int32))), .val (.int (F_bucket q1 (6 : Int32))), .val (.int (F_bucket q1 (7 : Int32))), .unset, .unset]) rfl k) ?_
  show Own.Fin p e below (T8.setTop (mkF m 56 #[.val (.long q1), .second, .val (.int (F_bucket q1 (0 : Int32))), .val (.int (F_bucket q1 (1 : Int32))), .val (.int (F_bucket q1 (2 : Int32))), .val (.int (F_bucket q1 (3 : Int32))), .val (.int (F_bucket q1 (4 : Int32))), .val (.int (F_bucket q1 (5 : Int32))), .val (.int (F_bucket q1 (6 : Int32))), .val (.int (F_bucket q1 (7 : Int32))), .unset, .unset] [])) _
  refine Own.go (fun t k => XS.iloadN X8.here hx rfl (hb hby at_56) rfl k) ?_
  show Own.Fin p e below (T8.setTop (mkF m 57 #[.val (.long q1), .second, .val (.int (F_bucket q1 (0 : Int32))), .val (.int (F_bucket q1 (1 : Int32))), .val (.int (F_bucket q1 (2 : Int32))), .val (.int (F_bucket q1 (3 : Int32))), .val (.int (F_bucket q1 (4 : Int32))), .val (.int (F_bucket q1 (5 : Int32))), .val (.int (F_bucket q1 (6 : Int32))), .val (.int (F_bucket q1 (7 : Int32))), .unset, .unset] [(.int (F_bucket q1 (0 : Int32)))])) _
  refine Own.cS X8 hx hZ hown (hw _ (List.mem_of_getElem? (i := 4) rfl)) (hw _ (List.mem_of_getElem? (i := 5) rfl)) (hw _ (List.mem_of_getElem? (i := 6) rfl)) (hw _ (List.mem_of_getElem? (i := 7) rfl)) (by decide) (rm2 l Z a0 hw [] (F_bucket q1 (0 : Int32)) h0 n0 Z0 ) (by decide) (W := 0) (by decide) (argsL := [(.int (F_bucket q1 (0 : Int32)))]) (rest := []) (by rw [hml]; rfl) (lenOf pd_1 rfl) rfl (Nat.le_of_eq rfl) (hb hby at_57) e8 (by decide) (by decide) ?_
  intro T9 L9 v9 X9 hQ9
  obtain ⟨rfl, N9q, e9⟩ := hQ9
  have N9 := Fr.app N8 N9q
  show Own.Fin p e below (T9.setTop (mkF m 60 #[.val (.long q1), .second, .val (.int (F_bucket q1 (0 : Int32))), .val (.int (F_bucket q1 (1 : Int32))), .val (.int (F_bucket q1 (2 : Int32))), .val (.int (F_bucket q1 (3 : Int32))), .val (.int (F_bucket q1 (4 : Int32))), .val (.int (F_bucket q1 (5 : Int32))), .val (.int (F_bucket q1 (6 : Int32))), .val (.int (F_bucket q1 (7 : Int32))), .unset, .unset] [(.int (F_isByte (F_bucket q1 (0 : Int32))))])) _
  have hc60_9 : ¬ ((F_isByte (F_bucket q1 (0 : Int32))) = (0 : Int32)) := by rw [own_isB]; decide
  refine Own.go (fun t k => XS.ifNo X9.here hx rfl (hb hby at_60) rfl ((if0 _ _).trans (feq hc60_9).1) k) ?_
  show Own.Fin p e below (T9.setTop (mkF m 63 #[.val (.long q1), .second, .val (.int (F_bucket q1 (0 : Int32))), .val (.int (F_bucket q1 (1 : Int32))), .val (.int (F_bucket q1 (2 : Int32))), .val (.int (F_bucket q1 (3 : Int32))), .val (.int (F_bucket q1 (4 : Int32))), .val (.int (F_bucket q1 (5 : Int32))), .val (.int (F_bucket q1 (6 : Int32))), .val (.int (F_bucket q1 (7 : Int32))), .unset, .unset] [])) _
  refine Own.go (fun t k => XS.iloadN X9.here hx rfl (hb hby at_63) rfl k) ?_
  show Own.Fin p e below (T9.setTop (mkF m 64 #[.val (.long q1), .second, .val (.int (F_bucket q1 (0 : Int32))), .val (.int (F_bucket q1 (1 : Int32))), .val (.int (F_bucket q1 (2 : Int32))), .val (.int (F_bucket q1 (3 : Int32))), .val (.int (F_bucket q1 (4 : Int32))), .val (.int (F_bucket q1 (5 : Int32))), .val (.int (F_bucket q1 (6 : Int32))), .val (.int (F_bucket q1 (7 : Int32))), .unset, .unset] [(.int (F_bucket q1 (1 : Int32)))])) _
  refine Own.cS X9 hx hZ hown (hw _ (List.mem_of_getElem? (i := 4) rfl)) (hw _ (List.mem_of_getElem? (i := 5) rfl)) (hw _ (List.mem_of_getElem? (i := 6) rfl)) (hw _ (List.mem_of_getElem? (i := 7) rfl)) (by decide) (rm2 l Z a0 hw [] (F_bucket q1 (1 : Int32)) h0 n0 Z0 ) (by decide) (W := 0) (by decide) (argsL := [(.int (F_bucket q1 (1 : Int32)))]) (rest := []) (by rw [hml]; rfl) (lenOf pd_1 rfl) rfl (Nat.le_of_eq rfl) (hb hby at_64) e9 (by decide) (by decide) ?_
  intro T11 L11 v11 X11 hQ11
  obtain ⟨rfl, N11q, e11⟩ := hQ11
  have N11 := Fr.app N9 N11q
  show Own.Fin p e below (T11.setTop (mkF m 67 #[.val (.long q1), .second, .val (.int (F_bucket q1 (0 : Int32))), .val (.int (F_bucket q1 (1 : Int32))), .val (.int (F_bucket q1 (2 : Int32))), .val (.int (F_bucket q1 (3 : Int32))), .val (.int (F_bucket q1 (4 : Int32))), .val (.int (F_bucket q1 (5 : Int32))), .val (.int (F_bucket q1 (6 : Int32))), .val (.int (F_bucket q1 (7 : Int32))), .unset, .unset] [(.int (F_isByte (F_bucket q1 (1 : Int32))))])) _
  have hc67_11 : ¬ ((F_isByte (F_bucket q1 (1 : Int32))) = (0 : Int32)) := by rw [own_isB]; decide
  refine Own.go (fun t k => XS.ifNo X11.here hx rfl (hb hby at_67) rfl ((if0 _ _).trans (feq hc67_11).1) k) ?_
  show Own.Fin p e below (T11.setTop (mkF m 70 #[.val (.long q1), .second, .val (.int (F_bucket q1 (0 : Int32))), .val (.int (F_bucket q1 (1 : Int32))), .val (.int (F_bucket q1 (2 : Int32))), .val (.int (F_bucket q1 (3 : Int32))), .val (.int (F_bucket q1 (4 : Int32))), .val (.int (F_bucket q1 (5 : Int32))), .val (.int (F_bucket q1 (6 : Int32))), .val (.int (F_bucket q1 (7 : Int32))), .unset, .unset] [])) _
  refine Own.go (fun t k => XS.iload X11.here hx rfl (hb hby at_70) rfl k) ?_
  show Own.Fin p e below (T11.setTop (mkF m 72 #[.val (.long q1), .second, .val (.int (F_bucket q1 (0 : Int32))), .val (.int (F_bucket q1 (1 : Int32))), .val (.int (F_bucket q1 (2 : Int32))), .val (.int (F_bucket q1 (3 : Int32))), .val (.int (F_bucket q1 (4 : Int32))), .val (.int (F_bucket q1 (5 : Int32))), .val (.int (F_bucket q1 (6 : Int32))), .val (.int (F_bucket q1 (7 : Int32))), .unset, .unset] [(.int (F_bucket q1 (2 : Int32)))])) _
  refine Own.cS X11 hx hZ hown (hw _ (List.mem_of_getElem? (i := 4) rfl)) (hw _ (List.mem_of_getElem? (i := 5) rfl)) (hw _ (List.mem_of_getElem? (i := 6) rfl)) (hw _ (List.mem_of_getElem? (i := 7) rfl)) (by decide) (rm2 l Z a0 hw [] (F_bucket q1 (2 : Int32)) h0 n0 Z0 ) (by decide) (W := 0) (by decide) (argsL := [(.int (F_bucket q1 (2 : Int32)))]) (rest := []) (by rw [hml]; rfl) (lenOf pd_1 rfl) rfl (Nat.le_of_eq rfl) (hb hby at_72) e11 (by decide) (by decide) ?_
  intro T13 L13 v13 X13 hQ13
  obtain ⟨rfl, N13q, e13⟩ := hQ13
  have N13 := Fr.app N11 N13q
  show Own.Fin p e below (T13.setTop (mkF m 75 #[.val (.long q1), .second, .val (.int (F_bucket q1 (0 : Int32))), .val (.int (F_bucket q1 (1 : Int32))), .val (.int (F_bucket q1 (2 : Int32))), .val (.int (F_bucket q1 (3 : Int32))), .val (.int (F_bucket q1 (4 : Int32))), .val (.int (F_bucket q1 (5 : Int32))), .val (.int (F_bucket q1 (6 : Int32))), .val (.int (F_bucket q1 (7 : Int32))), .unset, .unset] [(.int (F_isByte (F_bucket q1 (2 : Int32))))])) _
  have hc75_13 : ¬ ((F_isByte (F_bucket q1 (2 : Int32))) = (0 : Int32)) := by rw [own_isB]; decide
  refine Own.go (fun t k => XS.ifNo X13.here hx rfl (hb hby at_75) rfl ((if0 _ _).trans (feq hc75_13).1) k) ?_
  show Own.Fin p e below (T13.setTop (mkF m 78 #[.val (.long q1), .second, .val (.int (F_bucket q1 (0 : Int32))), .val (.int (F_bucket q1 (1 : Int32))), .val (.int (F_bucket q1 (2 : Int32))), .val (.int (F_bucket q1 (3 : Int32))), .val (.int (F_bucket q1 (4 : Int32))), .val (.int (F_bucket q1 (5 : Int32))), .val (.int (F_bucket q1 (6 : Int32))), .val (.int (F_bucket q1 (7 : Int32))), .unset, .unset] [])) _
  refine Own.go (fun t k => XS.iload X13.here hx rfl (hb hby at_78) rfl k) ?_
  show Own.Fin p e below (T13.setTop (mkF m 80 #[.val (.long q1), .second, .val (.int (F_bucket q1 (0 : Int32))), .val (.int (F_bucket q1 (1 : Int32))), .val (.int (F_bucket q1 (2 : Int32))), .val (.int (F_bucket q1 (3 : Int32))), .val (.int (F_bucket q1 (4 : Int32))), .val (.int (F_bucket q1 (5 : Int32))), .val (.int (F_bucket q1 (6 : Int32))), .val (.int (F_bucket q1 (7 : Int32))), .unset, .unset] [(.int (F_bucket q1 (3 : Int32)))])) _
  refine Own.cS X13 hx hZ hown (hw _ (List.mem_of_getElem? (i := 4) rfl)) (hw _ (List.mem_of_getElem? (i := 5) rfl)) (hw _ (List.mem_of_getElem? (i := 6) rfl)) (hw _ (List.mem_of_getElem? (i := 7) rfl)) (by decide) (rm2 l Z a0 hw [] (F_bucket q1 (3 : Int32)) h0 n0 Z0 ) (by decide) (W := 0) (by decide) (argsL := [(.int (F_bucket q1 (3 : Int32)))]) (rest := []) (by rw [hml]; rfl) (lenOf pd_1 rfl) rfl (Nat.le_of_eq rfl) (hb hby at_80) e13 (by decide) (by decide) ?_
  intro T15 L15 v15 X15 hQ15
  obtain ⟨rfl, N15q, e15⟩ := hQ15
  have N15 := Fr.app N13 N15q
  show Own.Fin p e below (T15.setTop (mkF m 83 #[.val (.long q1), .second, .val (.int (F_bucket q1 (0 : Int32))), .val (.int (F_bucket q1 (1 : Int32))), .val (.int (F_bucket q1 (2 : Int32))), .val (.int (F_bucket q1 (3 : Int32))), .val (.int (F_bucket q1 (4 : Int32))), .val (.int (F_bucket q1 (5 : Int32))), .val (.int (F_bucket q1 (6 : Int32))), .val (.int (F_bucket q1 (7 : Int32))), .unset, .unset] [(.int (F_isByte (F_bucket q1 (3 : Int32))))])) _
  have hc83_15 : ¬ ((F_isByte (F_bucket q1 (3 : Int32))) = (0 : Int32)) := by rw [own_isB]; decide
  refine Own.go (fun t k => XS.ifNo X15.here hx rfl (hb hby at_83) rfl ((if0 _ _).trans (feq hc83_15).1) k) ?_
  show Own.Fin p e below (T15.setTop (mkF m 86 #[.val (.long q1), .second, .val (.int (F_bucket q1 (0 : Int32))), .val (.int (F_bucket q1 (1 : Int32))), .val (.int (F_bucket q1 (2 : Int32))), .val (.int (F_bucket q1 (3 : Int32))), .val (.int (F_bucket q1 (4 : Int32))), .val (.int (F_bucket q1 (5 : Int32))), .val (.int (F_bucket q1 (6 : Int32))), .val (.int (F_bucket q1 (7 : Int32))), .unset, .unset] [])) _
  refine Own.go (fun t k => XS.iload X15.here hx rfl (hb hby at_86) rfl k) ?_
  show Own.Fin p e below (T15.setTop (mkF m 88 #[.val (.long q1), .second, .val (.int (F_bucket q1 (0 : Int32))), .val (.int (F_bucket q1 (1 : Int32))), .val (.int (F_bucket q1 (2 : Int32))), .val (.int (F_bucket q1 (3 : Int32))), .val (.int (F_bucket q1 (4 : Int32))), .val (.int (F_bucket q1 (5 : Int32))), .val (.int (F_bucket q1 (6 : Int32))), .val (.int (F_bucket q1 (7 : Int32))), .unset, .unset] [(.int (F_bucket q1 (4 : Int32)))])) _
  refine Own.cS X15 hx hZ hown (hw _ (List.mem_of_getElem? (i := 4) rfl)) (hw _ (List.mem_of_getElem? (i := 5) rfl)) (hw _ (List.mem_of_getElem? (i := 6) rfl)) (hw _ (List.mem_of_getElem? (i := 7) rfl)) (by decide) (rm2 l Z a0 hw [] (F_bucket q1 (4 : Int32)) h0 n0 Z0 ) (by decide) (W := 0) (by decide) (argsL := [(.int (F_bucket q1 (4 : Int32)))]) (rest := []) (by rw [hml]; rfl) (lenOf pd_1 rfl) rfl (Nat.le_of_eq rfl) (hb hby at_88) e15 (by decide) (by decide) ?_
  intro T17 L17 v17 X17 hQ17
  obtain ⟨rfl, N17q, e17⟩ := hQ17
  have N17 := Fr.app N15 N17q
  show Own.Fin p e below (T17.setTop (mkF m 91 #[.val (.long q1), .second, .val (.int (F_bucket q1 (0 : Int32))), .val (.int (F_bucket q1 (1 : Int32))), .val (.int (F_bucket q1 (2 : Int32))), .val (.int (F_bucket q1 (3 : Int32))), .val (.int (F_bucket q1 (4 : Int32))), .val (.int (F_bucket q1 (5 : Int32))), .val (.int (F_bucket q1 (6 : Int32))), .val (.int (F_bucket q1 (7 : Int32))), .unset, .unset] [(.int (F_isByte (F_bucket q1 (4 : Int32))))])) _
  have hc91_17 : ¬ ((F_isByte (F_bucket q1 (4 : Int32))) = (0 : Int32)) := by rw [own_isB]; decide
  refine Own.go (fun t k => XS.ifNo X17.here hx rfl (hb hby at_91) rfl ((if0 _ _).trans (feq hc91_17).1) k) ?_
  show Own.Fin p e below (T17.setTop (mkF m 94 #[.val (.long q1), .second, .val (.int (F_bucket q1 (0 : Int32))), .val (.int (F_bucket q1 (1 : Int32))), .val (.int (F_bucket q1 (2 : Int32))), .val (.int (F_bucket q1 (3 : Int32))), .val (.int (F_bucket q1 (4 : Int32))), .val (.int (F_bucket q1 (5 : Int32))), .val (.int (F_bucket q1 (6 : Int32))), .val (.int (F_bucket q1 (7 : Int32))), .unset, .unset] [])) _
  refine Own.go (fun t k => XS.iload X17.here hx rfl (hb hby at_94) rfl k) ?_
  show Own.Fin p e below (T17.setTop (mkF m 96 #[.val (.long q1), .second, .val (.int (F_bucket q1 (0 : Int32))), .val (.int (F_bucket q1 (1 : Int32))), .val (.int (F_bucket q1 (2 : Int32))), .val (.int (F_bucket q1 (3 : Int32))), .val (.int (F_bucket q1 (4 : Int32))), .val (.int (F_bucket q1 (5 : Int32))), .val (.int (F_bucket q1 (6 : Int32))), .val (.int (F_bucket q1 (7 : Int32))), .unset, .unset] [(.int (F_bucket q1 (5 : Int32)))])) _
  refine Own.cS X17 hx hZ hown (hw _ (List.mem_of_getElem? (i := 4) rfl)) (hw _ (List.mem_of_getElem? (i := 5) rfl)) (hw _ (List.mem_of_getElem? (i := 6) rfl)) (hw _ (List.mem_of_getElem? (i := 7) rfl)) (by decide) (rm2 l Z a0 hw [] (F_bucket q1 (5 : Int32)) h0 n0 Z0 ) (by decide) (W := 0) (by decide) (argsL := [(.int (F_bucket q1 (5 : Int32)))]) (rest := []) (by rw [hml]; rfl) (lenOf pd_1 rfl) rfl (Nat.le_of_eq rfl) (hb hby at_96) e17 (by decide) (by decide) ?_
  intro T19 L19 v19 X19 hQ19
  obtain ⟨rfl, N19q, e19⟩ := hQ19
  have N19 := Fr.app N17 N19q
  show Own.Fin p e below (T19.setTop (mkF m 99 #[.val (.long q1), .second, .val (.int (F_bucket q1 (0 : Int32))), .val (.int (F_bucket q1 (1 : Int32))), .val (.int (F_bucket q1 (2 : Int32))), .val (.int (F_bucket q1 (3 : Int32))), .val (.int (F_bucket q1 (4 : Int32))), .val (.int (F_bucket q1 (5 : Int32))), .val (.int (F_bucket q1 (6 : Int32))), .val (.int (F_bucket q1 (7 : Int32))), .unset, .unset] [(.int (F_isByte (F_bucket q1 (5 : Int32))))])) _
  have hc99_19 : ¬ ((F_isByte (F_bucket q1 (5 : Int32))) = (0 : Int32)) := by rw [own_isB]; decide
  refine Own.go (fun t k => XS.ifNo X19.here hx rfl (hb hby at_99) rfl ((if0 _ _).trans (feq hc99_19).1) k) ?_
  show Own.Fin p e below (T19.setTop (mkF m 102 #[.val (.long q1), .second, .val (.int (F_bucket q1 (0 : Int32))), .val (.int (F_bucket q1 (1 : Int32))), .val (.int (F_bucket q1 (2 : Int32))), .val (.int (F_bucket q1 (3 : Int32))), .val (.int (F_bucket q1 (4 : Int32))), .val (.int (F_bucket q1 (5 : Int32))), .val (.int (F_bucket q1 (6 : Int32))), .val (.int (F_bucket q1 (7 : Int32))), .unset, .unset] [])) _
  refine Own.go (fun t k => XS.iload X19.here hx rfl (hb hby at_102) rfl k) ?_
  show Own.Fin p e below (T19.setTop (mkF m 104 #[.val (.long q1), .second, .val (.int (F_bucket q1 (0 : Int32))), .val (.int (F_bucket q1 (1 : Int32))), .val (.int (F_bucket q1 (2 : Int32))), .val (.int (F_bucket q1 (3 : Int32))), .val (.int (F_bucket q1 (4 : Int32))), .val (.int (F_bucket q1 (5 : Int32))), .val (.int (F_bucket q1 (6 : Int32))), .val (.int (F_bucket q1 (7 : Int32))), .unset, .unset] [(.int (F_bucket q1 (6 : Int32)))])) _
  refine Own.cS X19 hx hZ hown (hw _ (List.mem_of_getElem? (i := 4) rfl)) (hw _ (List.mem_of_getElem? (i := 5) rfl)) (hw _ (List.mem_of_getElem? (i := 6) rfl)) (hw _ (List.mem_of_getElem? (i := 7) rfl)) (by decide) (rm2 l Z a0 hw [] (F_bucket q1 (6 : Int32)) h0 n0 Z0 ) (by decide) (W := 0) (by decide) (argsL := [(.int (F_bucket q1 (6 : Int32)))]) (rest := []) (by rw [hml]; rfl) (lenOf pd_1 rfl) rfl (Nat.le_of_eq rfl) (hb hby at_104) e19 (by decide) (by decide) ?_
  intro T21 L21 v21 X21 hQ21
  obtain ⟨rfl, N21q, e21⟩ := hQ21
  have N21 := Fr.app N19 N21q
  show Own.Fin p e below (T21.setTop (mkF m 107 #[.val (.long q1), .second, .val (.int (F_bucket q1 (0 : Int32))), .val (.int (F_bucket q1 (1 : Int32))), .val (.int (F_bucket q1 (2 : Int32))), .val (.int (F_bucket q1 (3 : Int32))), .val (.int (F_bucket q1 (4 : Int32))), .val (.int (F_bucket q1 (5 : Int32))), .val (.int (F_bucket q1 (6 : Int32))), .val (.int (F_bucket q1 (7 : Int32))), .unset, .unset] [(.int (F_isByte (F_bucket q1 (6 : Int32))))])) _
  have hc107_21 : ¬ ((F_isByte (F_bucket q1 (6 : Int32))) = (0 : Int32)) := by rw [own_isB]; decide
  refine Own.go (fun t k => XS.ifNo X21.here hx rfl (hb hby at_107) rfl ((if0 _ _).trans (feq hc107_21).1) k) ?_
  show Own.Fin p e below (T21.setTop (mkF m 110 #[.val (.long q1), .second, .val (.int (F_bucket q1 (0 : Int32))), .val (.int (F_bucket q1 (1 : Int32))), .val (.int (F_bucket q1 (2 : Int32))), .val (.int (F_bucket q1 (3 : Int32))), .val (.int (F_bucket q1 (4 : Int32))), .val (.int (F_bucket q1 (5 : Int32))), .val (.int (F_bucket q1 (6 : Int32))), .val (.int (F_bucket q1 (7 : Int32))), .unset, .unset] [])) _
  refine Own.go (fun t k => XS.iload X21.here hx rfl (hb hby at_110) rfl k) ?_
  show Own.Fin p e below (T21.setTop (mkF m 112 #[.val (.long q1), .second, .val (.int (F_bucket q1 (0 : Int32))), .val (.int (F_bucket q1 (1 : Int32))), .val (.int (F_bucket q1 (2 : Int32))), .val (.int (F_bucket q1 (3 : Int32))), .val (.int (F_bucket q1 (4 : Int32))), .val (.int (F_bucket q1 (5 : Int32))), .val (.int (F_bucket q1 (6 : Int32))), .val (.int (F_bucket q1 (7 : Int32))), .unset, .unset] [(.int (F_bucket q1 (7 : Int32)))])) _
  refine Own.cS X21 hx hZ hown (hw _ (List.mem_of_getElem? (i := 4) rfl)) (hw _ (List.mem_of_getElem? (i := 5) rfl)) (hw _ (List.mem_of_getElem? (i := 6) rfl)) (hw _ (List.mem_of_getElem? (i := 7) rfl)) (by decide) (rm2 l Z a0 hw [] (F_bucket q1 (7 : Int32)) h0 n0 Z0 ) (by decide) (W := 0) (by decide) (argsL := [(.int (F_bucket q1 (7 : Int32)))]) (rest := []) (by rw [hml]; rfl) (lenOf pd_1 rfl) rfl (Nat.le_of_eq rfl) (hb hby at_112) e21 (by decide) (by decide) ?_
  intro T23 L23 v23 X23 hQ23
  obtain ⟨rfl, N23q, e23⟩ := hQ23
  have N23 := Fr.app N21 N23q
  show Own.Fin p e below (T23.setTop (mkF m 115 #[.val (.long q1), .second, .val (.int (F_bucket q1 (0 : Int32))), .val (.int (F_bucket q1 (1 : Int32))), .val (.int (F_bucket q1 (2 : Int32))), .val (.int (F_bucket q1 (3 : Int32))), .val (.int (F_bucket q1 (4 : Int32))), .val (.int (F_bucket q1 (5 : Int32))), .val (.int (F_bucket q1 (6 : Int32))), .val (.int (F_bucket q1 (7 : Int32))), .unset, .unset] [(.int (F_isByte (F_bucket q1 (7 : Int32))))])) _
  have hc115_23 : ¬ ((F_isByte (F_bucket q1 (7 : Int32))) = (0 : Int32)) := by rw [own_isB]; decide
  refine Own.go (fun t k => XS.ifYes X23.here hx rfl (pc0 := 115) (pc' := 120) rfl (hb hby at_115) rfl ((if0 _ _).trans (feq hc115_23).2) (by decide) (by decide) k) ?_
  show Own.Fin p e below (T23.setTop (mkF m 120 #[.val (.long q1), .second, .val (.int (F_bucket q1 (0 : Int32))), .val (.int (F_bucket q1 (1 : Int32))), .val (.int (F_bucket q1 (2 : Int32))), .val (.int (F_bucket q1 (3 : Int32))), .val (.int (F_bucket q1 (4 : Int32))), .val (.int (F_bucket q1 (5 : Int32))), .val (.int (F_bucket q1 (6 : Int32))), .val (.int (F_bucket q1 (7 : Int32))), .unset, .unset] [])) _
  refine Own.go (fun t k => XS.iloadN X23.here hx rfl (hb hby at_120) rfl k) ?_
  show Own.Fin p e below (T23.setTop (mkF m 121 #[.val (.long q1), .second, .val (.int (F_bucket q1 (0 : Int32))), .val (.int (F_bucket q1 (1 : Int32))), .val (.int (F_bucket q1 (2 : Int32))), .val (.int (F_bucket q1 (3 : Int32))), .val (.int (F_bucket q1 (4 : Int32))), .val (.int (F_bucket q1 (5 : Int32))), .val (.int (F_bucket q1 (6 : Int32))), .val (.int (F_bucket q1 (7 : Int32))), .unset, .unset] [(.int (F_bucket q1 (0 : Int32)))])) _
  refine Own.go (fun t k => XS.i2l X23.here hx rfl (hb hby at_121) rfl k) ?_
  show Own.Fin p e below (T23.setTop (mkF m 122 #[.val (.long q1), .second, .val (.int (F_bucket q1 (0 : Int32))), .val (.int (F_bucket q1 (1 : Int32))), .val (.int (F_bucket q1 (2 : Int32))), .val (.int (F_bucket q1 (3 : Int32))), .val (.int (F_bucket q1 (4 : Int32))), .val (.int (F_bucket q1 (5 : Int32))), .val (.int (F_bucket q1 (6 : Int32))), .val (.int (F_bucket q1 (7 : Int32))), .unset, .unset] [(.long (((F_bucket q1 (0 : Int32))).toInt64))])) _
  refine Own.go (fun t k => XS.bipush X23.here hx rfl (hb hby at_122) k) ?_
  show Own.Fin p e below (T23.setTop (mkF m 124 #[.val (.long q1), .second, .val (.int (F_bucket q1 (0 : Int32))), .val (.int (F_bucket q1 (1 : Int32))), .val (.int (F_bucket q1 (2 : Int32))), .val (.int (F_bucket q1 (3 : Int32))), .val (.int (F_bucket q1 (4 : Int32))), .val (.int (F_bucket q1 (5 : Int32))), .val (.int (F_bucket q1 (6 : Int32))), .val (.int (F_bucket q1 (7 : Int32))), .unset, .unset] [(.int (56 : Int32)), (.long (((F_bucket q1 (0 : Int32))).toInt64))])) _
  refine Own.go (fun t k => XS.lshl X23.here hx rfl (hb hby at_124) rfl k) ?_
  show Own.Fin p e below (T23.setTop (mkF m 125 #[.val (.long q1), .second, .val (.int (F_bucket q1 (0 : Int32))), .val (.int (F_bucket q1 (1 : Int32))), .val (.int (F_bucket q1 (2 : Int32))), .val (.int (F_bucket q1 (3 : Int32))), .val (.int (F_bucket q1 (4 : Int32))), .val (.int (F_bucket q1 (5 : Int32))), .val (.int (F_bucket q1 (6 : Int32))), .val (.int (F_bucket q1 (7 : Int32))), .unset, .unset] [(.long (((((F_bucket q1 (0 : Int32))).toInt64) <<< ((56 : Int32) &&& 0x3f).toInt64)))])) _
  refine Own.go (fun t k => XS.iloadN X23.here hx rfl (hb hby at_125) rfl k) ?_
  show Own.Fin p e below (T23.setTop (mkF m 126 #[.val (.long q1), .second, .val (.int (F_bucket q1 (0 : Int32))), .val (.int (F_bucket q1 (1 : Int32))), .val (.int (F_bucket q1 (2 : Int32))), .val (.int (F_bucket q1 (3 : Int32))), .val (.int (F_bucket q1 (4 : Int32))), .val (.int (F_bucket q1 (5 : Int32))), .val (.int (F_bucket q1 (6 : Int32))), .val (.int (F_bucket q1 (7 : Int32))), .unset, .unset] [(.int (F_bucket q1 (1 : Int32))), (.long (((((F_bucket q1 (0 : Int32))).toInt64) <<< ((56 : Int32) &&& 0x3f).toInt64)))])) _
  refine Own.go (fun t k => XS.i2l X23.here hx rfl (hb hby at_126) rfl k) ?_
  show Own.Fin p e below (T23.setTop (mkF m 127 #[.val (.long q1), .second, .val (.int (F_bucket q1 (0 : Int32))), .val (.int (F_bucket q1 (1 : Int32))), .val (.int (F_bucket q1 (2 : Int32))), .val (.int (F_bucket q1 (3 : Int32))), .val (.int (F_bucket q1 (4 : Int32))), .val (.int (F_bucket q1 (5 : Int32))), .val (.int (F_bucket q1 (6 : Int32))), .val (.int (F_bucket q1 (7 : Int32))), .unset, .unset] [(.long (((F_bucket q1 (1 : Int32))).toInt64)), (.long (((((F_bucket q1 (0 : Int32))).toInt64) <<< ((56 : Int32) &&& 0x3f).toInt64)))])) _
  refine Own.go (fun t k => XS.bipush X23.here hx rfl (hb hby at_127) k) ?_
  show Own.Fin p e below (T23.setTop (mkF m 129 #[.val (.long q1), .second, .val (.int (F_bucket q1 (0 : Int32))), .val (.int (F_bucket q1 (1 : Int32))), .val (.int (F_bucket q1 (2 : Int32))), .val (.int (F_bucket q1 (3 : Int32))), .val (.int (F_bucket q1 (4 : Int32))), .val (.int (F_bucket q1 (5 : Int32))), .val (.int (F_bucket q1 (6 : Int32))), .val (.int (F_bucket q1 (7 : Int32))), .unset, .unset] [(.int (48 : Int32)), (.long (((F_bucket q1 (1 : Int32))).toInt64)), (.long (((((F_bucket q1 (0 : Int32))).toInt64) <<< ((56 : Int32) &&& 0x3f).toInt64)))])) _
  refine Own.go (fun t k => XS.lshl X23.here hx rfl (hb hby at_129) rfl k) ?_
  show Own.Fin p e below (T23.setTop (mkF m 130 #[.val (.long q1), .second, .val (.int (F_bucket q1 (0 : Int32))), .val (.int (F_bucket q1 (1 : Int32))), .val (.int (F_bucket q1 (2 : Int32))), .val (.int (F_bucket q1 (3 : Int32))), .val (.int (F_bucket q1 (4 : Int32))), .val (.int (F_bucket q1 (5 : Int32))), .val (.int (F_bucket q1 (6 : Int32))), .val (.int (F_bucket q1 (7 : Int32))), .unset, .unset] [(.long (((((F_bucket q1 (1 : Int32))).toInt64) <<< ((48 : Int32) &&& 0x3f).toInt64))), (.long (((((F_bucket q1 (0 : Int32))).toInt64) <<< ((56 : Int32) &&& 0x3f).toInt64)))])) _
  refine Own.go (fun t k => XS.lor X23.here hx rfl (hb hby at_130) rfl k) ?_
  show Own.Fin p e below (T23.setTop (mkF m 131 #[.val (.long q1), .second, .val (.int (F_bucket q1 (0 : Int32))), .val (.int (F_bucket q1 (1 : Int32))), .val (.int (F_bucket q1 (2 : Int32))), .val (.int (F_bucket q1 (3 : Int32))), .val (.int (F_bucket q1 (4 : Int32))), .val (.int (F_bucket q1 (5 : Int32))), .val (.int (F_bucket q1 (6 : Int32))), .val (.int (F_bucket q1 (7 : Int32))), .unset, .unset] [(.long ((((((F_bucket q1 (0 : Int32))).toInt64) <<< ((56 : Int32) &&& 0x3f).toInt64)) ||| (((((F_bucket q1 (1 : Int32))).toInt64) <<< ((48 : Int32) &&& 0x3f).toInt64))))])) _
  refine Own.go (fun t k => XS.iload X23.here hx rfl (hb hby at_131) rfl k) ?_
  show Own.Fin p e below (T23.setTop (mkF m 133 #[.val (.long q1), .second, .val (.int (F_bucket q1 (0 : Int32))), .val (.int (F_bucket q1 (1 : Int32))), .val (.int (F_bucket q1 (2 : Int32))), .val (.int (F_bucket q1 (3 : Int32))), .val (.int (F_bucket q1 (4 : Int32))), .val (.int (F_bucket q1 (5 : Int32))), .val (.int (F_bucket q1 (6 : Int32))), .val (.int (F_bucket q1 (7 : Int32))), .unset, .unset] [(.int (F_bucket q1 (2 : Int32))), (.long ((((((F_bucket q1 (0 : Int32))).toInt64) <<< ((56 : Int32) &&& 0x3f).toInt64)) ||| (((((F_bucket q1 (1 : Int32))).toInt64) <<< ((48 : Int32) &&& 0x3f).toInt64))))])) _
  refine Own.go (fun t k => XS.i2l X23.here hx rfl (hb hby at_133) rfl k) ?_
  show Own.Fin p e below (T23.setTop (mkF m 134 #[.val (.long q1), .second, .val (.int (F_bucket q1 (0 : Int32))), .val (.int (F_bucket q1 (1 : Int32))), .val (.int (F_bucket q1 (2 : Int32))), .val (.int (F_bucket q1 (3 : Int32))), .val (.int (F_bucket q1 (4 : Int32))), .val (.int (F_bucket q1 (5 : Int32))), .val (.int (F_bucket q1 (6 : Int32))), .val (.int (F_bucket q1 (7 : Int32))), .unset, .unset] [(.long (((F_bucket q1 (2 : Int32))).toInt64)), (.long ((((((F_bucket q1 (0 : Int32))).toInt64) <<< ((56 : Int32) &&& 0x3f).toInt64)) ||| (((((F_bucket q1 (1 : Int32))).toInt64) <<< ((48 : Int32) &&& 0x3f).toInt64))))])) _
  refine Own.go (fun t k => XS.bipush X23.here hx rfl (hb hby at_134) k) ?_
  show Own.Fin p e below (T23.setTop (mkF m 136 #[.val (.long q1), .second, .val (.int (F_bucket q1 (0 : Int32))), .val (.int (F_bucket q1 (1 : Int32))), .val (.int (F_bucket q1 (2 : Int32))), .val (.int (F_bucket q1 (3 : Int32))), .val (.int (F_bucket q1 (4 : Int32))), .val (.int (F_bucket q1 (5 : Int32))), .val (.int (F_bucket q1 (6 : Int32))), .val (.int (F_bucket q1 (7 : Int32))), .unset, .unset] [(.int (40 : Int32)), (.long (((F_bucket q1 (2 : Int32))).toInt64)), (.long ((((((F_bucket q1 (0 : Int32))).toInt64) <<< ((56 : Int32) &&& 0x3f).toInt64)) ||| (((((F_bucket q1 (1 : Int32))).toInt64) <<< ((48 : Int32) &&& 0x3f).toInt64))))])) _
  refine Own.go (fun t k => XS.lshl X23.here hx rfl (hb hby at_136) rfl k) ?_
  show Own.Fin p e below (T23.setTop (mkF m 137 #[.val (.long q1), .second, .val (.int (F_bucket q1 (0 : Int32))), .val (.int (F_bucket q1 (1 : Int32))), .val (.int (F_bucket q1 (2 : Int32))), .val (.int (F_bucket q1 (3 : Int32))), .val (.int (F_bucket q1 (4 : Int32))), .val (.int (F_bucket q1 (5 : Int32))), .val (.int (F_bucket q1 (6 : Int32))), .val (.int (F_bucket q1 (7 : Int32))), .unset, .unset] [(.long (((((F_bucket q1 (2 : Int32))).toInt64) <<< ((40 : Int32) &&& 0x3f).toInt64))), (.long ((((((F_bucket q1 (0 : Int32))).toInt64) <<< ((56 : Int32) &&& 0x3f).toInt64)) ||| (((((F_bucket q1 (1 : Int32))).toInt64) <<< ((48 : Int32) &&& 0x3f).toInt64))))])) _
  refine Own.go (fun t k => XS.lor X23.here hx rfl (hb hby at_137) rfl k) ?_
  show Own.Fin p e below (T23.setTop (mkF m 138 #[.val (.long q1), .second, .val (.int (F_bucket q1 (0 : Int32))), .val (.int (F_bucket q1 (1 : Int32))), .val (.int (F_bucket q1 (2 : Int32))), .val (.int (F_bucket q1 (3 : Int32))), .val (.int (F_bucket q1 (4 : Int32))), .val (.int (F_bucket q1 (5 : Int32))), .val (.int (F_bucket q1 (6 : Int32))), .val (.int (F_bucket q1 (7 : Int32))), .unset, .unset] [(.long (((((((F_bucket q1 (0 : Int32))).toInt64) <<< ((56 : Int32) &&& 0x3f).toInt64)) ||| (((((F_bucket q1 (1 : Int32))).toInt64) <<< ((48 : Int32) &&& 0x3f).toInt64))) ||| (((((F_bucket q1 (2 : Int32))).toInt64) <<< ((40 : Int32) &&& 0x3f).toInt64))))])) _
  refine Own.go (fun t k => XS.iload X23.here hx rfl (hb hby at_138) rfl k) ?_
  show Own.Fin p e below (T23.setTop (mkF m 140 #[.val (.long q1), .second, .val (.int (F_bucket q1 (0 : Int32))), .val (.int (F_bucket q1 (1 : Int32))), .val (.int (F_bucket q1 (2 : Int32))), .val (.int (F_bucket q1 (3 : Int32))), .val (.int (F_bucket q1 (4 : Int32))), .val (.int (F_bucket q1 (5 : Int32))), .val (.int (F_bucket q1 (6 : Int32))), .val (.int (F_bucket q1 (7 : Int32))), .unset, .unset] [(.int (F_bucket q1 (3 : Int32))), (.long (((((((F_bucket q1 (0 : Int32))).toInt64) <<< ((56 : Int32) &&& 0x3f).toInt64)) ||| (((((F_bucket q1 (1 : Int32))).toInt64) <<< ((48 : Int32) &&& 0x3f).toInt64))) ||| (((((F_bucket q1 (2 : Int32))).toInt64) <<< ((40 : Int32) &&& 0x3f).toInt64))))])) _
  refine Own.go (fun t k => XS.i2l X23.here hx rfl (hb hby at_140) rfl k) ?_
  show Own.Fin p e below (T23.setTop (mkF m 141 #[.val (.long q1), .second, .val (.int (F_bucket q1 (0 : Int32))), .val (.int (F_bucket q1 (1 : Int32))), .val (.int (F_bucket q1 (2 : Int32))), .val (.int (F_bucket q1 (3 : Int32))), .val (.int (F_bucket q1 (4 : Int32))), .val (.int (F_bucket q1 (5 : Int32))), .val (.int (F_bucket q1 (6 : Int32))), .val (.int (F_bucket q1 (7 : Int32))), .unset, .unset] [(.long (((F_bucket q1 (3 : Int32))).toInt64)), (.long (((((((F_bucket q1 (0 : Int32))).toInt64) <<< ((56 : Int32) &&& 0x3f).toInt64)) ||| (((((F_bucket q1 (1 : Int32))).toInt64) <<< ((48 : Int32) &&& 0x3f).toInt64))) ||| (((((F_bucket q1 (2 : Int32))).toInt64) <<< ((40 : Int32) &&& 0x3f).toInt64))))])) _
  refine Own.go (fun t k => XS.bipush X23.here hx rfl (hb hby at_141) k) ?_
  show Own.Fin p e below (T23.setTop (mkF m 143 #[.val (.long q1), .second, .val (.int (F_bucket q1 (0 : Int32))), .val (.int (F_bucket q1 (1 : Int32))), .val (.int (F_bucket q1 (2 : Int32))), .val (.int (F_bucket q1 (3 : Int32))), .val (.int (F_bucket q1 (4 : Int32))), .val (.int (F_bucket q1 (5 : Int32))), .val (.int (F_bucket q1 (6 : Int32))), .val (.int (F_bucket q1 (7 : Int32))), .unset, .unset] [(.int (32 : Int32)), (.long (((F_bucket q1 (3 : Int32))).toInt64)), (.long (((((((F_bucket q1 (0 : Int32))).toInt64) <<< ((56 : Int32) &&& 0x3f).toInt64)) ||| (((((F_bucket q1 (1 : Int32))).toInt64) <<< ((48 : Int32) &&& 0x3f).toInt64))) ||| (((((F_bucket q1 (2 : Int32))).toInt64) <<< ((40 : Int32) &&& 0x3f).toInt64))))])) _
  refine Own.go (fun t k => XS.lshl X23.here hx rfl (hb hby at_143) rfl k) ?_
  show Own.Fin p e below (T23.setTop (mkF m 144 #[.val (.long q1), .second, .val (.int (F_bucket q1 (0 : Int32))), .val (.int (F_bucket q1 (1 : Int32))), .val (.int (F_bucket q1 (2 : Int32))), .val (.int (F_bucket q1 (3 : Int32))), .val (.int (F_bucket q1 (4 : Int32))), .val (.int (F_bucket q1 (5 : Int32))), .val (.int (F_bucket q1 (6 : Int32))), .val (.int (F_bucket q1 (7 : Int32))), .unset, .unset] [(.long (((((F_bucket q1 (3 : Int32))).toInt64) <<< ((32 : Int32) &&& 0x3f).toInt64))), (.long (((((((F_bucket q1 (0 : Int32))).toInt64) <<< ((56 : Int32) &&& 0x3f).toInt64)) ||| (((((F_bucket q1 (1 : Int32))).toInt64) <<< ((48 : Int32) &&& 0x3f).toInt64))) ||| (((((F_bucket q1 (2 : Int32))).toInt64) <<< ((40 : Int32) &&& 0x3f).toInt64))))])) _
  refine Own.go (fun t k => XS.lor X23.here hx rfl (hb hby at_144) rfl k) ?_
  show Own.Fin p e below (T23.setTop (mkF m 145 #[.val (.long q1), .second, .val (.int (F_bucket q1 (0 : Int32))), .val (.int (F_bucket q1 (1 : Int32))), .val (.int (F_bucket q1 (2 : Int32))), .val (.int (F_bucket q1 (3 : Int32))), .val (.int (F_bucket q1 (4 : Int32))), .val (.int (F_bucket q1 (5 : Int32))), .val (.int (F_bucket q1 (6 : Int32))), .val (.int (F_bucket q1 (7 : Int32))), .unset, .unset] [(.long ((((((((F_bucket q1 (0 : Int32))).toInt64) <<< ((56 : Int32) &&& 0x3f).toInt64)) ||| (((((F_bucket q1 (1 : Int32))).toInt64) <<< ((48 : Int32) &&& 0x3f).toInt64))) ||| (((((F_bucket q1 (2 : Int32))).toInt64) <<< ((40 : Int32) &&& 0x3f).toInt64))) ||| (((((F_bucket q1 (3 : Int32))).toInt64) <<< ((32 : Int32) &&& 0x3f).toInt64))))])) _
  refine Own.go (fun t k => XS.iload X23.here hx rfl (hb hby at_145) rfl k) ?_
  show Own.Fin p e below (T23.setTop (mkF m 147 #[.val (.long q1), .second, .val (.int (F_bucket q1 (0 : Int32))), .val (.int (F_bucket q1 (1 : Int32))), .val (.int (F_bucket q1 (2 : Int32))), .val (.int (F_bucket q1 (3 : Int32))), .val (.int (F_bucket q1 (4 : Int32))), .val (.int (F_bucket q1 (5 : Int32))), .val (.int (F_bucket q1 (6 : Int32))), .val (.int (F_bucket q1 (7 : Int32))), .unset, .unset] [(.int (F_bucket q1 (4 : Int32))), (.long ((((((((F_bucket q1 (0 : Int32))).toInt64) <<< ((56 : Int32) &&& 0x3f).toInt64)) ||| (((((F_bucket q1 (1 : Int32))).toInt64) <<< ((48 : Int32) &&& 0x3f).toInt64))) ||| (((((F_bucket q1 (2 : Int32))).toInt64) <<< ((40 : Int32) &&& 0x3f).toInt64))) ||| (((((F_bucket q1 (3 : Int32))).toInt64) <<< ((32 : Int32) &&& 0x3f).toInt64))))])) _
  refine Own.go (fun t k => XS.i2l X23.here hx rfl (hb hby at_147) rfl k) ?_
  show Own.Fin p e below (T23.setTop (mkF m 148 #[.val (.long q1), .second, .val (.int (F_bucket q1 (0 : Int32))), .val (.int (F_bucket q1 (1 : Int32))), .val (.int (F_bucket q1 (2 : Int32))), .val (.int (F_bucket q1 (3 : Int32))), .val (.int (F_bucket q1 (4 : Int32))), .val (.int (F_bucket q1 (5 : Int32))), .val (.int (F_bucket q1 (6 : Int32))), .val (.int (F_bucket q1 (7 : Int32))), .unset, .unset] [(.long (((F_bucket q1 (4 : Int32))).toInt64)), (.long ((((((((F_bucket q1 (0 : Int32))).toInt64) <<< ((56 : Int32) &&& 0x3f).toInt64)) ||| (((((F_bucket q1 (1 : Int32))).toInt64) <<< ((48 : Int32) &&& 0x3f).toInt64))) ||| (((((F_bucket q1 (2 : Int32))).toInt64) <<< ((40 : Int32) &&& 0x3f).toInt64))) ||| (((((F_bucket q1 (3 : Int32))).toInt64) <<< ((32 : Int32) &&& 0x3f).toInt64))))])) _
  refine Own.go (fun t k => XS.bipush X23.here hx rfl (hb hby at_148) k) ?_
  show Own.Fin p e below (T23.setTop (mkF m 150 #[.val (.long q1), .second, .val (.int (F_bucket q1 (0 : Int32))), .val (.int (F_bucket q1 (1 : Int32))), .val (.int (F_bucket q1 (2 : Int32))), .val (.int (F_bucket q1 (3 : Int32))), .val (.int (F_bucket q1 (4 : Int32))), .val (.int (F_bucket q1 (5 : Int32))), .val (.int (F_bucket q1 (6 : Int32))), .val (.int (F_bucket q1 (7 : Int32))), .unset, .unset] [(.int (24 : Int32)), (.long (((F_bucket q1 (4 : Int32))).toInt64)), (.long ((((((((F_bucket q1 (0 : Int32))).toInt64) <<< ((56 : Int32) &&& 0x3f).toInt64)) ||| (((((F_bucket q1 (1 : Int32))).toInt64) <<< ((48 : Int32) &&& 0x3f).toInt64))) ||| (((((F_bucket q1 (2 : Int32))).toInt64) <<< ((40 : Int32) &&& 0x3f).toInt64))) ||| (((((F_bucket q1 (3 : Int32))).toInt64) <<< ((32 : Int32) &&& 0x3f).toInt64))))])) _
  refine Own.go (fun t k => XS.lshl X23.here hx rfl (hb hby at_150) rfl k) ?_
  show Own.Fin p e below (T23.setTop (mkF m 151 #[.val (.long q1), .second, .val (.int (F_bucket q1 (0 : Int32))), .val (.int (F_bucket q1 (1 : Int32))), .val (.int (F_bucket q1 (2 : Int32))), .val (.int (F_bucket q1 (3 : Int32))), .val (.int (F_bucket q1 (4 : Int32))), .val (.int (F_bucket q1 (5 : Int32))), .val (.int (F_bucket q1 (6 : Int32))), .val (.int (F_bucket q1 (7 : Int32))), .unset, .unset] [(.long (((((F_bucket q1 (4 : Int32))).toInt64) <<< ((24 : Int32) &&& 0x3f).toInt64))), (.long ((((((((F_bucket q1 (0 : Int32))).toInt64) <<< ((56 : Int32) &&& 0x3f).toInt64)) ||| (((((F_bucket q1 (1 : Int32))).toInt64) <<< ((48 : Int32) &&& 0x3f).toInt64))) ||| (((((F_bucket q1 (2 : Int32))).toInt64) <<< ((40 : Int32) &&& 0x3f).toInt64))) ||| (((((F_bucket q1 (3 : Int32))).toInt64) <<< ((32 : Int32) &&& 0x3f).toInt64))))])) _
  refine Own.go (fun t k => XS.lor X23.here hx rfl (hb hby at_151) rfl k) ?_
  show Own.Fin p e below (T23.setTop (mkF m 152 #[.val (.long q1), .second, .val (.int (F_bucket q1 (0 : Int32))), .val (.int (F_bucket q1 (1 : Int32))), .val (.int (F_bucket q1 (2 : Int32))), .val (.int (F_bucket q1 (3 : Int32))), .val (.int (F_bucket q1 (4 : Int32))), .val (.int (F_bucket q1 (5 : Int32))), .val (.int (F_bucket q1 (6 : Int32))), .val (.int (F_bucket q1 (7 : Int32))), .unset, .unset] [(.long (((((((((F_bucket q1 (0 : Int32))).toInt64) <<< ((56 : Int32) &&& 0x3f).toInt64)) ||| (((((F_bucket q1 (1 : Int32))).toInt64) <<< ((48 : Int32) &&& 0x3f).toInt64))) ||| (((((F_bucket q1 (2 : Int32))).toInt64) <<< ((40 : Int32) &&& 0x3f).toInt64))) ||| (((((F_bucket q1 (3 : Int32))).toInt64) <<< ((32 : Int32) &&& 0x3f).toInt64))) ||| (((((F_bucket q1 (4 : Int32))).toInt64) <<< ((24 : Int32) &&& 0x3f).toInt64))))])) _
  refine Own.go (fun t k => XS.iload X23.here hx rfl (hb hby at_152) rfl k) ?_
  show Own.Fin p e below (T23.setTop (mkF m 154 #[.val (.long q1), .second, .val (.int (F_bucket q1 (0 : Int32))), .val (.int (F_bucket q1 (1 : Int32))), .val (.int (F_bucket q1 (2 : Int32))), .val (.int (F_bucket q1 (3 : Int32))), .val (.int (F_bucket q1 (4 : Int32))), .val (.int (F_bucket q1 (5 : Int32))), .val (.int (F_bucket q1 (6 : Int32))), .val (.int (F_bucket q1 (7 : Int32))), .unset, .unset] [(.int (F_bucket q1 (5 : Int32))), (.long (((((((((F_bucket q1 (0 : Int32))).toInt64) <<< ((56 : Int32) &&& 0x3f).toInt64)) ||| (((((F_bucket q1 (1 : Int32))).toInt64) <<< ((48 : Int32) &&& 0x3f).toInt64))) ||| (((((F_bucket q1 (2 : Int32))).toInt64) <<< ((40 : Int32) &&& 0x3f).toInt64))) ||| (((((F_bucket q1 (3 : Int32))).toInt64) <<< ((32 : Int32) &&& 0x3f).toInt64))) ||| (((((F_bucket q1 (4 : Int32))).toInt64) <<< ((24 : Int32) &&& 0x3f).toInt64))))])) _
  refine Own.go (fun t k => XS.i2l X23.here hx rfl (hb hby at_154) rfl k) ?_
  show Own.Fin p e below (T23.setTop (mkF m 155 #[.val (.long q1), .second, .val (.int (F_bucket q1 (0 : Int32))), .val (.int (F_bucket q1 (1 : Int32))), .val (.int (F_bucket q1 (2 : Int32))), .val (.int (F_bucket q1 (3 : Int32))), .val (.int (F_bucket q1 (4 : Int32))), .val (.int (F_bucket q1 (5 : Int32))), .val (.int (F_bucket q1 (6 : Int32))), .val (.int (F_bucket q1 (7 : Int32))), .unset, .unset] [(.long (((F_bucket q1 (5 : Int32))).toInt64)), (.long (((((((((F_bucket q1 (0 : Int32))).toInt64) <<< ((56 : Int32) &&& 0x3f).toInt64)) ||| (((((F_bucket q1 (1 : Int32))).toInt64) <<< ((48 : Int32) &&& 0x3f).toInt64))) ||| (((((F_bucket q1 (2 : Int32))).toInt64) <<< ((40 : Int32) &&& 0x3f).toInt64))) ||| (((((F_bucket q1 (3 : Int32))).toInt64) <<< ((32 : Int32) &&& 0x3f).toInt64))) ||| (((((F_bucket q1 (4 : Int32))).toInt64) <<< ((24 : Int32) &&& 0x3f).toInt64))))])) _
  refine Own.go (fun t k => XS.bipush X23.here hx rfl (hb hby at_155) k) ?_
  show Own.Fin p e below (T23.setTop (mkF m 157 #[.val (.long q1), .second, .val (.int (F_bucket q1 (0 : Int32))), .val (.int (F_bucket q1 (1 : Int32))), .val (.int (F_bucket q1 (2 : Int32))), .val (.int (F_bucket q1 (3 : Int32))), .val (.int (F_bucket q1 (4 : Int32))), .val (.int (F_bucket q1 (5 : Int32))), .val (.int (F_bucket q1 (6 : Int32))), .val (.int (F_bucket q1 (7 : Int32))), .unset, .unset] [(.int (16 : Int32)), (.long (((F_bucket q1 (5 : Int32))).toInt64)), (.long (((((((((F_bucket q1 (0 : Int32))).toInt64) <<< ((56 : Int32) &&& 0x3f).toInt64)) ||| (((((F_bucket q1 (1 : Int32))).toInt64) <<< ((48 : Int32) &&& 0x3f).toInt64))) ||| (((((F_bucket q1 (2 : Int32))).toInt64) <<< ((40 : Int32) &&& 0x3f).toInt64))) ||| (((((F_bucket q1 (3 : Int32))).toInt64) <<< ((32 : Int32) &&& 0x3f).toInt64))) ||| (((((F_bucket q1 (4 : Int32))).toInt64) <<< ((24 : Int32) &&& 0x3f).toInt64))))])) _
  refine Own.go (fun t k => XS.lshl X23.here hx rfl (hb hby at_157) rfl k) ?_
  show Own.Fin p e below (T23.setTop (mkF m 158 #[.val (.long q1), .second, .val (.int (F_bucket q1 (0 : Int32))), .val (.int (F_bucket q1 (1 : Int32))), .val (.int (F_bucket q1 (2 : Int32))), .val (.int (F_bucket q1 (3 : Int32))), .val (.int (F_bucket q1 (4 : Int32))), .val (.int (F_bucket q1 (5 : Int32))), .val (.int (F_bucket q1 (6 : Int32))), .val (.int (F_bucket q1 (7 : Int32))), .unset, .unset] [(.long (((((F_bucket q1 (5 : Int32))).toInt64) <<< ((16 : Int32) &&& 0x3f).toInt64))), (.long (((((((((F_bucket q1 (0 : Int32))).toInt64) <<< ((56 : Int32) &&& 0x3f).toInt64)) ||| (((((F_bucket q1 (1 : Int32))).toInt64) <<< ((48 : Int32) &&& 0x3f).toInt64))) ||| (((((F_bucket q1 (2 : Int32))).toInt64) <<< ((40 : Int32) &&& 0x3f).toInt64))) ||| (((((F_bucket q1 (3 : Int32))).toInt64) <<< ((32 : Int32) &&& 0x3f).toInt64))) ||| (((((F_bucket q1 (4 : Int32))).toInt64) <<< ((24 : Int32) &&& 0x3f).toInt64))))])) _
  refine Own.go (fun t k => XS.lor X23.here hx rfl (hb hby at_158) rfl k) ?_
  show Own.Fin p e below (T23.setTop (mkF m 159 #[.val (.long q1), .second, .val (.int (F_bucket q1 (0 : Int32))), .val (.int (F_bucket q1 (1 : Int32))), .val (.int (F_bucket q1 (2 : Int32))), .val (.int (F_bucket q1 (3 : Int32))), .val (.int (F_bucket q1 (4 : Int32))), .val (.int (F_bucket q1 (5 : Int32))), .val (.int (F_bucket q1 (6 : Int32))), .val (.int (F_bucket q1 (7 : Int32))), .unset, .unset] [(.long ((((((((((F_bucket q1 (0 : Int32))).toInt64) <<< ((56 : Int32) &&& 0x3f).toInt64)) ||| (((((F_bucket q1 (1 : Int32))).toInt64) <<< ((48 : Int32) &&& 0x3f).toInt64))) ||| (((((F_bucket q1 (2 : Int32))).toInt64) <<< ((40 : Int32) &&& 0x3f).toInt64))) ||| (((((F_bucket q1 (3 : Int32))).toInt64) <<< ((32 : Int32) &&& 0x3f).toInt64))) ||| (((((F_bucket q1 (4 : Int32))).toInt64) <<< ((24 : Int32) &&& 0x3f).toInt64))) ||| (((((F_bucket q1 (5 : Int32))).toInt64) <<< ((16 : Int32) &&& 0x3f).toInt64))))])) _
  refine Own.go (fun t k => XS.iload X23.here hx rfl (hb hby at_159) rfl k) ?_
  show Own.Fin p e below (T23.setTop (mkF m 161 #[.val (.long q1), .second, .val (.int (F_bucket q1 (0 : Int32))), .val (.int (F_bucket q1 (1 : Int32))), .val (.int (F_bucket q1 (2 : Int32))), .val (.int (F_bucket q1 (3 : Int32))), .val (.int (F_bucket q1 (4 : Int32))), .val (.int (F_bucket q1 (5 : Int32))), .val (.int (F_bucket q1 (6 : Int32))), .val (.int (F_bucket q1 (7 : Int32))), .unset, .unset] [(.int (F_bucket q1 (6 : Int32))), (.long ((((((((((F_bucket q1 (0 : Int32))).toInt64) <<< ((56 : Int32) &&& 0x3f).toInt64)) ||| (((((F_bucket q1 (1 : Int32))).toInt64) <<< ((48 : Int32) &&& 0x3f).toInt64))) ||| (((((F_bucket q1 (2 : Int32))).toInt64) <<< ((40 : Int32) &&& 0x3f).toInt64))) ||| (((((F_bucket q1 (3 : Int32))).toInt64) <<< ((32 : Int32) &&& 0x3f).toInt64))) ||| (((((F_bucket q1 (4 : Int32))).toInt64) <<< ((24 : Int32) &&& 0x3f).toInt64))) ||| (((((F_bucket q1 (5 : Int32))).toInt64) <<< ((16 : Int32) &&& 0x3f).toInt64))))])) _
  refine Own.go (fun t k => XS.i2l X23.here hx rfl (hb hby at_161) rfl k) ?_
  show Own.Fin p e below (T23.setTop (mkF m 162 #[.val (.long q1), .second, .val (.int (F_bucket q1 (0 : Int32))), .val (.int (F_bucket q1 (1 : Int32))), .val (.int (F_bucket q1 (2 : Int32))), .val (.int (F_bucket q1 (3 : Int32))), .val (.int (F_bucket q1 (4 : Int32))), .val (.int (F_bucket q1 (5 : Int32))), .val (.int (F_bucket q1 (6 : Int32))), .val (.int (F_bucket q1 (7 : Int32))), .unset, .unset] [(.long (((F_bucket q1 (6 : Int32))).toInt64)), (.long ((((((((((F_bucket q1 (0 : Int32))).toInt64) <<< ((56 : Int32) &&& 0x3f).toInt64)) ||| (((((F_bucket q1 (1 : Int32))).toInt64) <<< ((48 : Int32) &&& 0x3f).toInt64))) ||| (((((F_bucket q1 (2 : Int32))).toInt64) <<< ((40 : Int32) &&& 0x3f).toInt64))) ||| (((((F_bucket q1 (3 : Int32))).toInt64) <<< ((32 : Int32) &&& 0x3f).toInt64))) ||| (((((F_bucket q1 (4 : Int32))).toInt64) <<< ((24 : Int32) &&& 0x3f).toInt64))) ||| (((((F_bucket q1 (5 : Int32))).toInt64) <<< ((16 : Int32) &&& 0x3f).toInt64))))])) _
  refine Own.go (fun t k => XS.bipush X23.here hx rfl (hb hby at_162) k) ?_
  show Own.Fin p e below (T23.setTop (mkF m 164 #[.val (.long q1), .second, .val (.int (F_bucket q1 (0 : Int32))), .val (.int (F_bucket q1 (1 : Int32))), .val (.int (F_bucket q1 (2 : Int32))), .val (.int (F_bucket q1 (3 : Int32))), .val (.int (F_bucket q1 (4 : Int32))), .val (.int (F_bucket q1 (5 : Int32))), .val (.int (F_bucket q1 (6 : Int32))), .val (.int (F_bucket q1 (7 : Int32))), .unset, .unset] [(.int (8 : Int32)), (.long (((F_bucket q1 (6 : Int32))).toInt64)), (.long ((((((((((F_bucket q1 (0 : Int32))).toInt64) <<< ((56 : Int32) &&& 0x3f).toInt64)) ||| (((((F_bucket q1 (1 : Int32))).toInt64) <<< ((48 : Int32) &&& 0x3f).toInt64))) ||| (((((F_bucket q1 (2 : Int32))).toInt64) <<< ((40 : Int32) &&& 0x3f).toInt64))) ||| (((((F_bucket q1 (3 : Int32))).toInt64) <<< ((32 : Int32) &&& 0x3f).toInt64))) ||| (((((F_bucket q1 (4 : Int32))).toInt64) <<< ((24 : Int32) &&& 0x3f).toInt64))) ||| (((((F_bucket q1 (5 : Int32))).toInt64) <<< ((16 : Int32) &&& 0x3f).toInt64))))])) _
  refine Own.go (fun t k => XS.lshl X23.here hx rfl (hb hby at_164) rfl k) ?_
  show Own.Fin p e below (T23.setTop (mkF m 165 #[.val (.long q1), .second, .val (.int (F_bucket q1 (0 : Int32))), .val (.int (F_bucket q1 (1 : Int32))), .val (.int (F_bucket q1 (2 : Int32))), .val (.int (F_bucket q1 (3 : Int32))), .val (.int (F_bucket q1 (4 : Int32))), .val (.int (F_bucket q1 (5 : Int32))), .val (.int (F_bucket q1 (6 : Int32))), .val (.int (F_bucket q1 (7 : Int32))), .unset, .unset] [(.long (((((F_bucket q1 (6 : Int32))).toInt64) <<< ((8 : Int32) &&& 0x3f).toInt64))), (.long ((((((((((F_bucket q1 (0 : Int32))).toInt64) <<< ((56 : Int32) &&& 0x3f).toInt64)) ||| (((((F_bucket q1 (1 : Int32))).toInt64) <<< ((48 : Int32) &&& 0x3f).toInt64))) ||| (((((F_bucket q1 (2 : Int32))).toInt64) <<< ((40 : Int32) &&& 0x3f).toInt64))) ||| (((((F_bucket q1 (3 : Int32))).toInt64) <<< ((32 : Int32) &&& 0x3f).toInt64))) ||| (((((F_bucket q1 (4 : Int32))).toInt64) <<< ((24 : Int32) &&& 0x3f).toInt64))) ||| (((((F_bucket q1 (5 : Int32))).toInt64) <<< ((16 : Int32) &&& 0x3f).toInt64))))])) _
  refine Own.go (fun t k => XS.lor X23.here hx rfl (hb hby at_165) rfl k) ?_
  show Own.Fin p e below (T23.setTop (mkF m 166 #[.val (.long q1), .second, .val (.int (F_bucket q1 (0 : Int32))), .val (.int (F_bucket q1 (1 : Int32))), .val (.int (F_bucket q1 (2 : Int32))), .val (.int (F_bucket q1 (3 : Int32))), .val (.int (F_bucket q1 (4 : Int32))), .val (.int (F_bucket q1 (5 : Int32))), .val (.int (F_bucket q1 (6 : Int32))), .val (.int (F_bucket q1 (7 : Int32))), .unset, .unset] [(.long (((((((((((F_bucket q1 (0 : Int32))).toInt64) <<< ((56 : Int32) &&& 0x3f).toInt64)) ||| (((((F_bucket q1 (1 : Int32))).toInt64) <<< ((48 : Int32) &&& 0x3f).toInt64))) ||| (((((F_bucket q1 (2 : Int32))).toInt64) <<< ((40 : Int32) &&& 0x3f).toInt64))) ||| (((((F_bucket q1 (3 : Int32))).toInt64) <<< ((32 : Int32) &&& 0x3f).toInt64))) ||| (((((F_bucket q1 (4 : Int32))).toInt64) <<< ((24 : Int32) &&& 0x3f).toInt64))) ||| (((((F_bucket q1 (5 : Int32))).toInt64) <<< ((16 : Int32) &&& 0x3f).toInt64))) ||| (((((F_bucket q1 (6 : Int32))).toInt64) <<< ((8 : Int32) &&& 0x3f).toInt64))))])) _
  refine Own.go (fun t k => XS.iload X23.here hx rfl (hb hby at_166) rfl k) ?_
  show Own.Fin p e below (T23.setTop (mkF m 168 #[.val (.long q1), .second, .val (.int (F_bucket q1 (0 : Int32))), .val (.int (F_bucket q1 (1 : Int32))), .val (.int (F_bucket q1 (2 : Int32))), .val (.int (F_bucket q1 (3 : Int32))), .val (.int (F_bucket q1 (4 : Int32))), .val (.int (F_bucket q1 (5 : Int32))), .val (.int (F_bucket q1 (6 : Int32))), .val (.int (F_bucket q1 (7 : Int32))), .unset, .unset] [(.int (F_bucket q1 (7 : Int32))), (.long (((((((((((F_bucket q1 (0 : Int32))).toInt64) <<< ((56 : Int32) &&& 0x3f).toInt64)) ||| (((((F_bucket q1 (1 : Int32))).toInt64) <<< ((48 : Int32) &&& 0x3f).toInt64))) ||| (((((F_bucket q1 (2 : Int32))).toInt64) <<< ((40 : Int32) &&& 0x3f).toInt64))) ||| (((((F_bucket q1 (3 : Int32))).toInt64) <<< ((32 : Int32) &&& 0x3f).toInt64))) ||| (((((F_bucket q1 (4 : Int32))).toInt64) <<< ((24 : Int32) &&& 0x3f).toInt64))) ||| (((((F_bucket q1 (5 : Int32))).toInt64) <<< ((16 : Int32) &&& 0x3f).toInt64))) ||| (((((F_bucket q1 (6 : Int32))).toInt64) <<< ((8 : Int32) &&& 0x3f).toInt64))))])) _
  refine Own.go (fun t k => XS.i2l X23.here hx rfl (hb hby at_168) rfl k) ?_
  show Own.Fin p e below (T23.setTop (mkF m 169 #[.val (.long q1), .second, .val (.int (F_bucket q1 (0 : Int32))), .val (.int (F_bucket q1 (1 : Int32))), .val (.int (F_bucket q1 (2 : Int32))), .val (.int (F_bucket q1 (3 : Int32))), .val (.int (F_bucket q1 (4 : Int32))), .val (.int (F_bucket q1 (5 : Int32))), .val (.int (F_bucket q1 (6 : Int32))), .val (.int (F_bucket q1 (7 : Int32))), .unset, .unset] [(.long (((F_bucket q1 (7 : Int32))).toInt64)), (.long (((((((((((F_bucket q1 (0 : Int32))).toInt64) <<< ((56 : Int32) &&& 0x3f).toInt64)) ||| (((((F_bucket q1 (1 : Int32))).toInt64) <<< ((48 : Int32) &&& 0x3f).toInt64))) ||| (((((F_bucket q1 (2 : Int32))).toInt64) <<< ((40 : Int32) &&& 0x3f).toInt64))) ||| (((((F_bucket q1 (3 : Int32))).toInt64) <<< ((32 : Int32) &&& 0x3f).toInt64))) ||| (((((F_bucket q1 (4 : Int32))).toInt64) <<< ((24 : Int32) &&& 0x3f).toInt64))) ||| (((((F_bucket q1 (5 : Int32))).toInt64) <<< ((16 : Int32) &&& 0x3f).toInt64))) ||| (((((F_bucket q1 (6 : Int32))).toInt64) <<< ((8 : Int32) &&& 0x3f).toInt64))))])) _
  refine Own.go (fun t k => XS.lor X23.here hx rfl (hb hby at_169) rfl k) ?_
  show Own.Fin p e below (T23.setTop (mkF m 170 #[.val (.long q1), .second, .val (.int (F_bucket q1 (0 : Int32))), .val (.int (F_bucket q1 (1 : Int32))), .val (.int (F_bucket q1 (2 : Int32))), .val (.int (F_bucket q1 (3 : Int32))), .val (.int (F_bucket q1 (4 : Int32))), .val (.int (F_bucket q1 (5 : Int32))), .val (.int (F_bucket q1 (6 : Int32))), .val (.int (F_bucket q1 (7 : Int32))), .unset, .unset] [(.long ((((((((((((F_bucket q1 (0 : Int32))).toInt64) <<< ((56 : Int32) &&& 0x3f).toInt64)) ||| (((((F_bucket q1 (1 : Int32))).toInt64) <<< ((48 : Int32) &&& 0x3f).toInt64))) ||| (((((F_bucket q1 (2 : Int32))).toInt64) <<< ((40 : Int32) &&& 0x3f).toInt64))) ||| (((((F_bucket q1 (3 : Int32))).toInt64) <<< ((32 : Int32) &&& 0x3f).toInt64))) ||| (((((F_bucket q1 (4 : Int32))).toInt64) <<< ((24 : Int32) &&& 0x3f).toInt64))) ||| (((((F_bucket q1 (5 : Int32))).toInt64) <<< ((16 : Int32) &&& 0x3f).toInt64))) ||| (((((F_bucket q1 (6 : Int32))).toInt64) <<< ((8 : Int32) &&& 0x3f).toInt64))) ||| (((F_bucket q1 (7 : Int32))).toInt64)))])) _
  refine Own.go (fun t k => XS.lstore X23.here hx rfl (hb hby at_170) rfl (l' := #[.val (.long q1), .second, .val (.int (F_bucket q1 (0 : Int32))), .val (.int (F_bucket q1 (1 : Int32))), .val (.int (F_bucket q1 (2 : Int32))), .val (.int (F_bucket q1 (3 : Int32))), .val (.int (F_bucket q1 (4 : Int32))), .val (.int (F_bucket q1 (5 : Int32))), .val (.int (F_bucket q1 (6 : Int32))), .val (.int (F_bucket q1 (7 : Int32))), .val (.long ((((((((((((F_bucket q1 (0 : Int32))).toInt64) <<< ((56 : Int32) &&& 0x3f).toInt64)) ||| (((((F_bucket q1 (1 : Int32))).toInt64) <<< ((48 : Int32) &&& 0x3f).toInt64))) ||| (((((F_bucket q1 (2 : Int32))).toInt64) <<< ((40 : Int32) &&& 0x3f).toInt64))) ||| (((((F_bucket q1 (3 : Int32))).toInt64) <<< ((32 : Int32) &&& 0x3f).toInt64))) ||| (((((F_bucket q1 (4 : Int32))).toInt64) <<< ((24 : Int32) &&& 0x3f).toInt64))) ||| (((((F_bucket q1 (5 : Int32))).toInt64) <<< ((16 : Int32) &&& 0x3f).toInt64))) ||| (((((F_bucket q1 (6 : Int32))).toInt64) <<< ((8 : Int32) &&& 0x3f).toInt64))) ||| (((F_bucket q1 (7 : Int32))).toInt64))), .second]) rfl k) ?_
  show Own.Fin p e below (T23.setTop (mkF m 172 #[.val (.long q1), .second, .val (.int (F_bucket q1 (0 : Int32))), .val (.int (F_bucket q1 (1 : Int32))), .val (.int (F_bucket q1 (2 : Int32))), .val (.int (F_bucket q1 (3 : Int32))), .val (.int (F_bucket q1 (4 : Int32))), .val (.int (F_bucket q1 (5 : Int32))), .val (.int (F_bucket q1 (6 : Int32))), .val (.int (F_bucket q1 (7 : Int32))), .val (.long ((((((((((((F_bucket q1 (0 : Int32))).toInt64) <<< ((56 : Int32) &&& 0x3f).toInt64)) ||| (((((F_bucket q1 (1 : Int32))).toInt64) <<< ((48 : Int32) &&& 0x3f).toInt64))) ||| (((((F_bucket q1 (2 : Int32))).toInt64) <<< ((40 : Int32) &&& 0x3f).toInt64))) ||| (((((F_bucket q1 (3 : Int32))).toInt64) <<< ((32 : Int32) &&& 0x3f).toInt64))) ||| (((((F_bucket q1 (4 : Int32))).toInt64) <<< ((24 : Int32) &&& 0x3f).toInt64))) ||| (((((F_bucket q1 (5 : Int32))).toInt64) <<< ((16 : Int32) &&& 0x3f).toInt64))) ||| (((((F_bucket q1 (6 : Int32))).toInt64) <<< ((8 : Int32) &&& 0x3f).toInt64))) ||| (((F_bucket q1 (7 : Int32))).toInt64))), .second] [])) _
  refine Own.go (fun t k => XS.lload X23.here hx rfl (hb hby at_172) rfl k) ?_
  show Own.Fin p e below (T23.setTop (mkF m 174 #[.val (.long q1), .second, .val (.int (F_bucket q1 (0 : Int32))), .val (.int (F_bucket q1 (1 : Int32))), .val (.int (F_bucket q1 (2 : Int32))), .val (.int (F_bucket q1 (3 : Int32))), .val (.int (F_bucket q1 (4 : Int32))), .val (.int (F_bucket q1 (5 : Int32))), .val (.int (F_bucket q1 (6 : Int32))), .val (.int (F_bucket q1 (7 : Int32))), .val (.long ((((((((((((F_bucket q1 (0 : Int32))).toInt64) <<< ((56 : Int32) &&& 0x3f).toInt64)) ||| (((((F_bucket q1 (1 : Int32))).toInt64) <<< ((48 : Int32) &&& 0x3f).toInt64))) ||| (((((F_bucket q1 (2 : Int32))).toInt64) <<< ((40 : Int32) &&& 0x3f).toInt64))) ||| (((((F_bucket q1 (3 : Int32))).toInt64) <<< ((32 : Int32) &&& 0x3f).toInt64))) ||| (((((F_bucket q1 (4 : Int32))).toInt64) <<< ((24 : Int32) &&& 0x3f).toInt64))) ||| (((((F_bucket q1 (5 : Int32))).toInt64) <<< ((16 : Int32) &&& 0x3f).toInt64))) ||| (((((F_bucket q1 (6 : Int32))).toInt64) <<< ((8 : Int32) &&& 0x3f).toInt64))) ||| (((F_bucket q1 (7 : Int32))).toInt64))), .second] [(.long ((((((((((((F_bucket q1 (0 : Int32))).toInt64) <<< ((56 : Int32) &&& 0x3f).toInt64)) ||| (((((F_bucket q1 (1 : Int32))).toInt64) <<< ((48 : Int32) &&& 0x3f).toInt64))) ||| (((((F_bucket q1 (2 : Int32))).toInt64) <<< ((40 : Int32) &&& 0x3f).toInt64))) ||| (((((F_bucket q1 (3 : Int32))).toInt64) <<< ((32 : Int32) &&& 0x3f).toInt64))) ||| (((((F_bucket q1 (4 : Int32))).toInt64) <<< ((24 : Int32) &&& 0x3f).toInt64))) ||| (((((F_bucket q1 (5 : Int32))).toInt64) <<< ((16 : Int32) &&& 0x3f).toInt64))) ||| (((((F_bucket q1 (6 : Int32))).toInt64) <<< ((8 : Int32) &&& 0x3f).toInt64))) ||| (((F_bucket q1 (7 : Int32))).toInt64)))])) _
  refine Own.go (fun t k => XS.lloadN X23.here hx rfl (hb hby at_174) rfl k) ?_
  show Own.Fin p e below (T23.setTop (mkF m 175 #[.val (.long q1), .second, .val (.int (F_bucket q1 (0 : Int32))), .val (.int (F_bucket q1 (1 : Int32))), .val (.int (F_bucket q1 (2 : Int32))), .val (.int (F_bucket q1 (3 : Int32))), .val (.int (F_bucket q1 (4 : Int32))), .val (.int (F_bucket q1 (5 : Int32))), .val (.int (F_bucket q1 (6 : Int32))), .val (.int (F_bucket q1 (7 : Int32))), .val (.long ((((((((((((F_bucket q1 (0 : Int32))).toInt64) <<< ((56 : Int32) &&& 0x3f).toInt64)) ||| (((((F_bucket q1 (1 : Int32))).toInt64) <<< ((48 : Int32) &&& 0x3f).toInt64))) ||| (((((F_bucket q1 (2 : Int32))).toInt64) <<< ((40 : Int32) &&& 0x3f).toInt64))) ||| (((((F_bucket q1 (3 : Int32))).toInt64) <<< ((32 : Int32) &&& 0x3f).toInt64))) ||| (((((F_bucket q1 (4 : Int32))).toInt64) <<< ((24 : Int32) &&& 0x3f).toInt64))) ||| (((((F_bucket q1 (5 : Int32))).toInt64) <<< ((16 : Int32) &&& 0x3f).toInt64))) ||| (((((F_bucket q1 (6 : Int32))).toInt64) <<< ((8 : Int32) &&& 0x3f).toInt64))) ||| (((F_bucket q1 (7 : Int32))).toInt64))), .second] [(.long q1), (.long ((((((((((((F_bucket q1 (0 : Int32))).toInt64) <<< ((56 : Int32) &&& 0x3f).toInt64)) ||| (((((F_bucket q1 (1 : Int32))).toInt64) <<< ((48 : Int32) &&& 0x3f).toInt64))) ||| (((((F_bucket q1 (2 : Int32))).toInt64) <<< ((40 : Int32) &&& 0x3f).toInt64))) ||| (((((F_bucket q1 (3 : Int32))).toInt64) <<< ((32 : Int32) &&& 0x3f).toInt64))) ||| (((((F_bucket q1 (4 : Int32))).toInt64) <<< ((24 : Int32) &&& 0x3f).toInt64))) ||| (((((F_bucket q1 (5 : Int32))).toInt64) <<< ((16 : Int32) &&& 0x3f).toInt64))) ||| (((((F_bucket q1 (6 : Int32))).toInt64) <<< ((8 : Int32) &&& 0x3f).toInt64))) ||| (((F_bucket q1 (7 : Int32))).toInt64)))])) _
  refine Own.go (fun t k => XS.lcmp X23.here hx rfl (hb hby at_175) rfl k) ?_
  show Own.Fin p e below (T23.setTop (mkF m 176 #[.val (.long q1), .second, .val (.int (F_bucket q1 (0 : Int32))), .val (.int (F_bucket q1 (1 : Int32))), .val (.int (F_bucket q1 (2 : Int32))), .val (.int (F_bucket q1 (3 : Int32))), .val (.int (F_bucket q1 (4 : Int32))), .val (.int (F_bucket q1 (5 : Int32))), .val (.int (F_bucket q1 (6 : Int32))), .val (.int (F_bucket q1 (7 : Int32))), .val (.long ((((((((((((F_bucket q1 (0 : Int32))).toInt64) <<< ((56 : Int32) &&& 0x3f).toInt64)) ||| (((((F_bucket q1 (1 : Int32))).toInt64) <<< ((48 : Int32) &&& 0x3f).toInt64))) ||| (((((F_bucket q1 (2 : Int32))).toInt64) <<< ((40 : Int32) &&& 0x3f).toInt64))) ||| (((((F_bucket q1 (3 : Int32))).toInt64) <<< ((32 : Int32) &&& 0x3f).toInt64))) ||| (((((F_bucket q1 (4 : Int32))).toInt64) <<< ((24 : Int32) &&& 0x3f).toInt64))) ||| (((((F_bucket q1 (5 : Int32))).toInt64) <<< ((16 : Int32) &&& 0x3f).toInt64))) ||| (((((F_bucket q1 (6 : Int32))).toInt64) <<< ((8 : Int32) &&& 0x3f).toInt64))) ||| (((F_bucket q1 (7 : Int32))).toInt64))), .second] [(.int (lcmpW ((((((((((((F_bucket q1 (0 : Int32))).toInt64) <<< ((56 : Int32) &&& 0x3f).toInt64)) ||| (((((F_bucket q1 (1 : Int32))).toInt64) <<< ((48 : Int32) &&& 0x3f).toInt64))) ||| (((((F_bucket q1 (2 : Int32))).toInt64) <<< ((40 : Int32) &&& 0x3f).toInt64))) ||| (((((F_bucket q1 (3 : Int32))).toInt64) <<< ((32 : Int32) &&& 0x3f).toInt64))) ||| (((((F_bucket q1 (4 : Int32))).toInt64) <<< ((24 : Int32) &&& 0x3f).toInt64))) ||| (((((F_bucket q1 (5 : Int32))).toInt64) <<< ((16 : Int32) &&& 0x3f).toInt64))) ||| (((((F_bucket q1 (6 : Int32))).toInt64) <<< ((8 : Int32) &&& 0x3f).toInt64))) ||| (((F_bucket q1 (7 : Int32))).toInt64)) q1))])) _
  have hc176_24 : (lcmpW ((((((((((((F_bucket q1 (0 : Int32))).toInt64) <<< ((56 : Int32) &&& 0x3f).toInt64)) ||| (((((F_bucket q1 (1 : Int32))).toInt64) <<< ((48 : Int32) &&& 0x3f).toInt64))) ||| (((((F_bucket q1 (2 : Int32))).toInt64) <<< ((40 : Int32) &&& 0x3f).toInt64))) ||| (((((F_bucket q1 (3 : Int32))).toInt64) <<< ((32 : Int32) &&& 0x3f).toInt64))) ||| (((((F_bucket q1 (4 : Int32))).toInt64) <<< ((24 : Int32) &&& 0x3f).toInt64))) ||| (((((F_bucket q1 (5 : Int32))).toInt64) <<< ((16 : Int32) &&& 0x3f).toInt64))) ||| (((((F_bucket q1 (6 : Int32))).toInt64) <<< ((8 : Int32) &&& 0x3f).toInt64))) ||| (((F_bucket q1 (7 : Int32))).toInt64)) q1) = (0 : Int32) := (lw_eq _ _).mpr (own_law _)
  refine Own.go (fun t k => XS.ifNo X23.here hx rfl (hb hby at_176) rfl ((if0 _ _).trans (teq hc176_24).2) k) ?_
  show Own.Fin p e below (T23.setTop (mkF m 179 #[.val (.long q1), .second, .val (.int (F_bucket q1 (0 : Int32))), .val (.int (F_bucket q1 (1 : Int32))), .val (.int (F_bucket q1 (2 : Int32))), .val (.int (F_bucket q1 (3 : Int32))), .val (.int (F_bucket q1 (4 : Int32))), .val (.int (F_bucket q1 (5 : Int32))), .val (.int (F_bucket q1 (6 : Int32))), .val (.int (F_bucket q1 (7 : Int32))), .val (.long ((((((((((((F_bucket q1 (0 : Int32))).toInt64) <<< ((56 : Int32) &&& 0x3f).toInt64)) ||| (((((F_bucket q1 (1 : Int32))).toInt64) <<< ((48 : Int32) &&& 0x3f).toInt64))) ||| (((((F_bucket q1 (2 : Int32))).toInt64) <<< ((40 : Int32) &&& 0x3f).toInt64))) ||| (((((F_bucket q1 (3 : Int32))).toInt64) <<< ((32 : Int32) &&& 0x3f).toInt64))) ||| (((((F_bucket q1 (4 : Int32))).toInt64) <<< ((24 : Int32) &&& 0x3f).toInt64))) ||| (((((F_bucket q1 (5 : Int32))).toInt64) <<< ((16 : Int32) &&& 0x3f).toInt64))) ||| (((((F_bucket q1 (6 : Int32))).toInt64) <<< ((8 : Int32) &&& 0x3f).toInt64))) ||| (((F_bucket q1 (7 : Int32))).toInt64))), .second] [])) _
  refine Own.go (fun t k => XS.iconst X23.here hx rfl (hb hby at_179) k) ?_
  show Own.Fin p e below (T23.setTop (mkF m 180 #[.val (.long q1), .second, .val (.int (F_bucket q1 (0 : Int32))), .val (.int (F_bucket q1 (1 : Int32))), .val (.int (F_bucket q1 (2 : Int32))), .val (.int (F_bucket q1 (3 : Int32))), .val (.int (F_bucket q1 (4 : Int32))), .val (.int (F_bucket q1 (5 : Int32))), .val (.int (F_bucket q1 (6 : Int32))), .val (.int (F_bucket q1 (7 : Int32))), .val (.long ((((((((((((F_bucket q1 (0 : Int32))).toInt64) <<< ((56 : Int32) &&& 0x3f).toInt64)) ||| (((((F_bucket q1 (1 : Int32))).toInt64) <<< ((48 : Int32) &&& 0x3f).toInt64))) ||| (((((F_bucket q1 (2 : Int32))).toInt64) <<< ((40 : Int32) &&& 0x3f).toInt64))) ||| (((((F_bucket q1 (3 : Int32))).toInt64) <<< ((32 : Int32) &&& 0x3f).toInt64))) ||| (((((F_bucket q1 (4 : Int32))).toInt64) <<< ((24 : Int32) &&& 0x3f).toInt64))) ||| (((((F_bucket q1 (5 : Int32))).toInt64) <<< ((16 : Int32) &&& 0x3f).toInt64))) ||| (((((F_bucket q1 (6 : Int32))).toInt64) <<< ((8 : Int32) &&& 0x3f).toInt64))) ||| (((F_bucket q1 (7 : Int32))).toInt64))), .second] [(.int (1 : Int32))])) _
  refine Own.go (fun t k => XS.goto X23.here hx rfl (pc0 := 180) (pc' := 184) rfl (hb hby at_180) (by decide) (by decide) k) ?_
  show Own.Fin p e below (T23.setTop (mkF m 184 #[.val (.long q1), .second, .val (.int (F_bucket q1 (0 : Int32))), .val (.int (F_bucket q1 (1 : Int32))), .val (.int (F_bucket q1 (2 : Int32))), .val (.int (F_bucket q1 (3 : Int32))), .val (.int (F_bucket q1 (4 : Int32))), .val (.int (F_bucket q1 (5 : Int32))), .val (.int (F_bucket q1 (6 : Int32))), .val (.int (F_bucket q1 (7 : Int32))), .val (.long ((((((((((((F_bucket q1 (0 : Int32))).toInt64) <<< ((56 : Int32) &&& 0x3f).toInt64)) ||| (((((F_bucket q1 (1 : Int32))).toInt64) <<< ((48 : Int32) &&& 0x3f).toInt64))) ||| (((((F_bucket q1 (2 : Int32))).toInt64) <<< ((40 : Int32) &&& 0x3f).toInt64))) ||| (((((F_bucket q1 (3 : Int32))).toInt64) <<< ((32 : Int32) &&& 0x3f).toInt64))) ||| (((((F_bucket q1 (4 : Int32))).toInt64) <<< ((24 : Int32) &&& 0x3f).toInt64))) ||| (((((F_bucket q1 (5 : Int32))).toInt64) <<< ((16 : Int32) &&& 0x3f).toInt64))) ||| (((((F_bucket q1 (6 : Int32))).toInt64) <<< ((8 : Int32) &&& 0x3f).toInt64))) ||| (((F_bucket q1 (7 : Int32))).toInt64))), .second] [(.int (1 : Int32))])) _
  refine Own.retN X23 hx Bd.notSynchronized (t := .boolean) Bd.returns (by simp) (hb hby at_184) (by decide) (by decide) ?_
  exact ⟨rfl, N23⟩
set_option maxRecDepth 65536 in
set_option maxHeartbeats 40000000 in
theorem comes_1 {Post : Tables → Env → Array Value → State → Outcome → State → Prop} (hpost : ∀ tb e args s v u, (limb_1_1.after args s (.returned v) u = true ∧ limb_1_2.after args s (.returned v) u = true ∧ True) → FrameEnd s (.returned v) u (Jvm.fieldLocs frame_1_writes args s ++ Jvm.arrayLocs frame_1_arrays args s ++ Jvm.staticLocs frame_1_statics s) 0 0 → Post tb e args s (.returned v) u) :
    ArmFor flags0 classFile x code maxLocals ret World_1 tables_1 room_1 Calls_1 rest_1 Pre_1 Post := by
  intro l hfl _ _ p e ha hc hk s m args below hf hA hF happ hP
  obtain ⟨hcalls, hrest, hpre⟩ := hP
  obtain ⟨-, -, -, hnamed, -, -, -, hat⟩ := (Spec.applies_iff hf).mp happ
  obtain ⟨hg, hn⟩ := and_e (Cond.before_iff.mp (show (Jvm.Cond.and given_1 narrow_1).before args s = true from hpre))
  obtain ⟨g1, g2⟩ := and_e hg
  obtain ⟨w0, rfl⟩ : ∃ w0 : Value, args = #[w0] := by
    have hs : args.size = 1 := by simpa [Cond.value, given_1] using g1
    obtain ⟨L⟩ := args
    match L, hs with
    | [w0], _ => exact ⟨w0, rfl⟩
  have hw := fun d (hd : d ∈ tables_1) => atoms_spec (ws := Jvm.Cond.code x code maxLocals ret :: tables_1) hat d (List.mem_cons_of_mem _ hd)
  have hfit : Fit s := fun {y c} hc i hi => by
    obtain ⟨ha, rfl⟩ := Array.getElem?_eq_some_iff.mp hc
    have q := List.all_eq_true.mp ((Array.all_eq_true_iff_forall_mem.mp hF) _ (Array.getElem_mem ha)) i (List.mem_range.mpr hi)
    simpa [Array.getElem?_eq_getElem hi] using q
  obtain ⟨i0, ei0⟩ := isL_v g2
  obtain rfl : w0 = (.long i0) := Option.some.inj ei0
  obtain ⟨n, o, h1, h2, h3, _, L, rfl, ⟨rfl, N⟩, hq⟩ := rm0 l s _ hw tables_1 i0 s.heap s.heap.size (Nat.le_refl _)  p e ha hc hk s m _ below hf ((Spec.applies_iff_loose hf).mp happ).1 ⟨rfl, State.Warmed39.refl s, rfl⟩ trivial
  refine ⟨n, _, h1, h2, h3, hpost _ _ _ _ _ _ ⟨Cond.after_iff.mpr rfl, Cond.after_iff.mpr (eq_i res_at (Term.int_eval (1)) rfl), trivial⟩ ⟨hq.1, hq.2.1, (hq.2.2.sift fun y hy => Or.inr (N y hy)).mono (by decide) (by decide)⟩⟩
theorem main_1_1 : Claimed_1_1 := comes_1 fun _ _ _ _ _ _ h hF => ⟨h.1, hF⟩
theorem main_1_2 : Claimed_1_2 := comes_1 fun _ _ _ _ _ _ h hF => ⟨h.2.1, hF⟩
end Jvm.Pilot.@@N@@
namespace Jvm.Pilot.@@N@@
open Jvm Jvm.ClassFile Sem Op Lib Jvm.Free Jvm.Stand Jvm.Pilot.@@N@@.Jvm.D
/-! MADE BY PROGRAM (witnessworld.py) out of the Statement's table words and the real class files: 9 classes; the members and pool entries that the words name. The judged class is class 1, her method 2. -/
namespace start1
open Jvm.ClassFile
def u (s : String) : CpInfo := .utf8 (stringToUtf16 s)
/-- a pool by its gaps: so many unusable entries, then the entry; so many at the end -/
def gap : Nat → List CpInfo → List CpInfo
  | 0, r => r
  | n + 1, r => .unusable :: gap n r
def poolList (es : List (Nat × CpInfo)) (last : Nat) : List CpInfo := es.foldr (fun e r => gap e.1 (e.2 :: r)) (gap last [])
def pool (es : List (Nat × CpInfo)) (last : Nat) : Array CpInfo := ⟨poolList es last⟩
def fileOf (pool : Array CpInfo) (this : Nat) (attrs : Array Attribute := #[]) (ms : Array MethodInfo := #[]) (fl : Nat := 33) (sup : Nat := 0) (ifs : Array Nat := #[]) (fds : Array FieldInfo := #[]) : ClassFile where
  minorVersion := 0
  majorVersion := 65
  constantPool := pool
  accessFlags := fl
  thisClass := this
  superClass := sup
  interfaces := ifs
  fields := fds
  methods := ms
  attributes := attrs
def plain (name : String) (sup : Option ClassId) : Class where
  name := name
  kind := .ordinary
  loader := none
  accessFlags := 33
  super := sup
  interfaces := #[]
  cf := none
  fields := #[]
  methods := #[]
  instanceTypes := #[]
  staticTypes := #[]
  resolved := #[]
  callSites := []
  init := .initialized
  statics := none
  mirror := none

def pool0 : Array CpInfo := pool [(5, u "<init>"), (0, u "()V"), (1, .class_ 10), (1, u "java/lang/Object")] 113

def k0m0 : Method := { name := "<init>", desc := "()V", sig := { parameters := [], returnType := none }, accessFlags := 1, code := none }
/-- java/lang/Object -/
def k0 : Class := { plain "java/lang/Object" none with
  accessFlags := 33
  interfaces := #[]
  cf := some (fileOf pool0 8 #[] #[{ accessFlags := 1, nameIndex := 5, descriptorIndex := 6, attributes := #[] }] 33 0 #[] #[])
  fields := #[]
  methods := #[k0m0]
  instanceTypes := #[]
  staticTypes := #[]
  resolved := Array.replicate 124 none
  statics := none }

def pool1 : Array CpInfo := pool [(2, .class_ 4), (1, u "java/lang/Object"), (0, u "<init>"), (0, u "()V"), (0, .methodref 8 9), (0, .class_ 10), (0, .nameAndType 11 12), (0, u "com/example/cairn/cairn/unixfs/Hamt"), (0, u "bucket"), (0, u "(JI)I"), (0, .methodref 14 15), (0, .class_ 16), (0, .nameAndType 17 18), (0, u "com/example/cairn/cairn/unixfs/HamtBucketPinLaw"), (0, u "isByte"), (0, u "(I)Z"), (3, u "law"), (0, u "(J)Z")] 2

def k1m0 : Method := { name := "<init>", desc := "()V", sig := { parameters := [], returnType := none }, accessFlags := 2, code := none }
def k1c1 : Code := { maxStack := 2, maxLocals := 1, code := method_2_code, exceptionTable := #[], attributes := #[] }
def k1m1 : Method := { name := "isByte", desc := "(I)Z", sig := { parameters := [.int], returnType := some .boolean }, accessFlags := 10, code := some k1c1 }
def k1c2 : Code := { maxStack := 5, maxLocals := 12, code := code, exceptionTable := #[], attributes := #[] }
def k1m2 : Method := { name := "law", desc := "(J)Z", sig := { parameters := [.long], returnType := some .boolean }, accessFlags := 9, code := some k1c2 }
/-- com/example/cairn/cairn/unixfs/HamtBucketPinLaw -/
def k1 : Class := { plain "com/example/cairn/cairn/unixfs/HamtBucketPinLaw" (some 0) with
  accessFlags := 49
  interfaces := #[]
  cf := some (fileOf pool1 14 #[] #[{ accessFlags := 2, nameIndex := 5, descriptorIndex := 6, attributes := #[] }, { accessFlags := 10, nameIndex := 17, descriptorIndex := 18, attributes := #[] }, { accessFlags := 9, nameIndex := 22, descriptorIndex := 23, attributes := #[] }] 49 2 #[] #[])
  fields := #[]
  methods := #[k1m0, k1m1, k1m2]
  instanceTypes := #[]
  staticTypes := #[]
  resolved := Array.replicate 26 none
  statics := none }

def pool2 : Array CpInfo := pool [(4, .class_ 6), (1, u "java/lang/Object"), (0, u "<init>"), (0, u "()V"), (20, .class_ 30), (0, u "com/example/cairn/cairn/unixfs/Hamt"), (2, u "HEX"), (0, u "Ljava/util/HexFormat;"), (47, u "FANOUT"), (0, u "I"), (2, u "HASH_TYPE"), (0, u "J"), (2, u "MAX_DEPTH"), (1, u "PREFIX_LENGTH"), (5, u "bucket"), (0, u "(JI)I")] 28

def k2m0 : Method := { name := "<init>", desc := "()V", sig := { parameters := [], returnType := none }, accessFlags := 2, code := none }
def k2c1 : Code := { maxStack := 5, maxLocals := 3, code := prog_99_method_3_code, exceptionTable := #[], attributes := #[] }
def k2m1 : Method := { name := "bucket", desc := "(JI)I", sig := { parameters := [.long, .int], returnType := some .int }, accessFlags := 9, code := some k2c1 }
/-- com/example/cairn/cairn/unixfs/Hamt -/
def k2 : Class := { plain "com/example/cairn/cairn/unixfs/Hamt" (some 0) with
  accessFlags := 49
  interfaces := #[]
  cf := some (fileOf pool2 29 #[] #[{ accessFlags := 2, nameIndex := 7, descriptorIndex := 8, attributes := #[] }, { accessFlags := 9, nameIndex := 98, descriptorIndex := 99, attributes := #[] }] 49 4 #[] #[{ accessFlags := 25, nameIndex := 82, descriptorIndex := 83, attributes := #[] }, { accessFlags := 25, nameIndex := 86, descriptorIndex := 87, attributes := #[] }, { accessFlags := 25, nameIndex := 90, descriptorIndex := 83, attributes := #[] }, { accessFlags := 24, nameIndex := 92, descriptorIndex := 83, attributes := #[] }, { accessFlags := 26, nameIndex := 33, descriptorIndex := 34, attributes := #[] }])
  fields := #[{ name := "FANOUT", type := .int, accessFlags := 25, slot := 0, constantValue := 0 }, { name := "HASH_TYPE", type := .long, accessFlags := 25, slot := 1, constantValue := 0 }, { name := "MAX_DEPTH", type := .int, accessFlags := 25, slot := 2, constantValue := 0 }, { name := "PREFIX_LENGTH", type := .int, accessFlags := 24, slot := 3, constantValue := 0 }, { name := "HEX", type := (.object "java/util/HexFormat"), accessFlags := 26, slot := 4, constantValue := 0 }]
  methods := #[k2m0, k2m1]
  instanceTypes := #[]
  staticTypes := #[.int, .long, .int, .int, (.object "java/util/HexFormat")]
  resolved := Array.replicate 128 none
  statics := none }

def pool3 : Array CpInfo := pool [(1, u "java/lang/Cloneable"), (0, .class_ 1), (0, u "java/lang/Object"), (0, .class_ 3)] 3

/-- java/lang/Cloneable -/
def k3 : Class := { plain "java/lang/Cloneable" (some 0) with
  accessFlags := 1537
  interfaces := #[]
  cf := some (fileOf pool3 2 #[] #[] 1537 4 #[] #[])
  fields := #[]
  methods := #[]
  instanceTypes := #[]
  staticTypes := #[]
  resolved := Array.replicate 8 none
  statics := none }

def pool4 : Array CpInfo := pool [(1, u "java/io/Serializable"), (0, .class_ 1), (0, u "java/lang/Object"), (0, .class_ 3)] 3

/-- java/io/Serializable -/
def k4 : Class := { plain "java/io/Serializable" (some 0) with
  accessFlags := 1537
  interfaces := #[]
  cf := some (fileOf pool4 2 #[] #[] 1537 4 #[] #[])
  fields := #[]
  methods := #[]
  instanceTypes := #[]
  staticTypes := #[]
  resolved := Array.replicate 8 none
  statics := none }

/-- the primitive byte -/
def k5 : Class := { plain "byte" none with kind := .primitive 'B', accessFlags := 0x411 }
/-- [B -/
def k6 : Class := { plain "[B" (some 0) with kind := .array 5 .byte, interfaces := #[3, 4], accessFlags := 1041 }

/-- the primitive int -/
def k7 : Class := { plain "int" none with kind := .primitive 'I', accessFlags := 0x411 }
/-- [I -/
def k8 : Class := { plain "[I" (some 0) with kind := .array 7 .int, interfaces := #[3, 4], accessFlags := 1041 }

def heap : Heap := #[]
def classes : Array Class := #[k0, k1, k2, k3, k4, k5, k6, k7, k8]
def interned : List (Array UInt16 × Addr) := []
def slotsUsed : Nat := 0
def theMethod : MethodId := ⟨1, 2⟩
def args0 : Array Value := #[.long 5]
def aboutOver (below : List Frame) : State where
  vm := { classes := classes, interned := interned.toArray }
  heap := heap
  slotsUsed := slotsUsed
  threads := #[{ frames := .invoking theMethod args0 :: below }]
def below0 : List Frame := [.native { method := ⟨0, 0⟩, args := #[] }]
def about1 : State := aboutOver below0
def p0 : Program := .bare "" "" ""
def e0 : Env := launch0.env 0 0 0
theorem w_frames : about1.frames = Frame.invoking theMethod args0 :: below0 := rfl
set_option maxRecDepth 65536 in
theorem w_args : argsFit about1.vm theMethod args0 = true := by decide +kernel
set_option maxRecDepth 65536 in
theorem w_heap : heapFits about1 = true := by decide +kernel
set_option maxRecDepth 65536 in
theorem w_runnable : about1.curStatus? = some .runnable := by decide +kernel
set_option maxRecDepth 65536 in
theorem w_alone : about1.alone = true := by decide +kernel
set_option maxRecDepth 65536 in
theorem w_named : about1.methodNamed? x = some theMethod := by decide +kernel
set_option maxRecDepth 65536 in
theorem w_hears : about1.hears theMethod below0 = true := by decide +kernel
set_option maxRecDepth 65536 in
theorem w_ripe : about1.ripe theMethod args0 below0 = true := by decide +kernel
theorem w_running : about1.status = .running := rfl
set_option maxRecDepth 65536 in
theorem w_room : about1.hasRoom e0.platform room_1 = true :=
  launch0.hasRoom_least _ room_1 (by decide +kernel) (by decide +kernel) (by decide +kernel) (by decide +kernel) (by decide +kernel) (by decide +kernel)
theorem allAtoms_all (ts : List Jvm.Cond) (a : Array Jvm.Value) (st : Jvm.State) : (allAtoms ts).before a st = ts.all (fun c => c.before a st) := by
  induction ts with
  | nil => rfl
  | cons c t ih =>
    show (Jvm.Cond.and c (allAtoms t)).before a st = _
    rw [Jvm.Cond.before_and, ih, List.all_cons]
def words1 : List Jvm.Cond := Jvm.Cond.code x code maxLocals ret :: tables_1
/-- a 'code' word, met by the world's own term for the bytes: nothing is compared byte by byte -/
theorem code_word {y : MethodName} {bytes : ByteArray} {mx : Nat} {rt : Option FieldType} {a : Array Value} {s : State} {m : MethodId} {meth : Method} {c : Code} (h1 : s.methodNamed? y = some m) (h2 : s.vm.method? m = some meth) (h3 : meth.code = some c) (h4 : c.code = bytes)
    (h5 : (c.maxLocals == mx && c.exceptionTable.isEmpty && decide (c.maxStack ≤ mostOperands) && decide (meth.sig.returnType = rt) && !meth.locks && decide (parseMethodDescriptor y.desc = some meth.sig)) = true) : (Jvm.Cond.code y bytes mx rt).before a s = true := by
  simp only [Bool.and_eq_true, beq_iff_eq, Bool.not_eq_true', decide_eq_true_eq] at h5
  obtain ⟨⟨⟨⟨⟨g1, g2⟩, g3⟩, g4⟩, g5⟩, g6⟩ := h5
  simp [Cond.before, Cond.holds, Cond.value, h1, h2, h3, h4, g1, g2, g3, g4, g5, g6]
def isCode : Jvm.Cond → Bool
  | .code _ _ _ _ => true
  | _ => false
theorem all_split {L : List Jvm.Cond} {P : Jvm.Cond → Bool} (h1 : L.all (fun c => isCode c || P c) = true) (h2 : ∀ c ∈ L.filter isCode, P c = true) : L.all P = true := by
  refine List.all_eq_true.mpr fun c hc => ?_
  have h := List.all_eq_true.mp h1 c hc
  rcases Bool.eq_false_or_eq_true (isCode c) with hi | hi
  · exact h2 c (List.mem_filter.mpr ⟨hc, hi⟩)
  · simpa [hi] using h
set_option maxRecDepth 65536 in
theorem w_c0 : (Jvm.Cond.code x code maxLocals ret).before args0 about1 = true := code_word (m := ⟨1, 2⟩) (meth := k1m2) (c := k1c2) (by decide +kernel) rfl rfl rfl (by decide +kernel)
set_option maxRecDepth 65536 in
theorem w_c1 : (Jvm.Cond.code ({ cls := "com/example/cairn/cairn/unixfs/Hamt", name := "bucket", desc := "(JI)I" } : Jvm.MethodName) prog_99_method_3_code (3 : Nat) (Option.some Jvm.ClassFile.FieldType.int)).before args0 about1 = true := code_word (m := ⟨2, 1⟩) (meth := k2m1) (c := k2c1) (by decide +kernel) rfl rfl rfl (by decide +kernel)
set_option maxRecDepth 65536 in
theorem w_c2 : (Jvm.Cond.code ({ cls := "com/example/cairn/cairn/unixfs/HamtBucketPinLaw", name := "isByte", desc := "(I)Z" } : Jvm.MethodName) method_2_code (1 : Nat) (Option.some Jvm.ClassFile.FieldType.boolean)).before args0 about1 = true := code_word (m := ⟨1, 1⟩) (meth := k1m1) (c := k1c1) (by decide +kernel) rfl rfl rfl (by decide +kernel)
def codes1 : List Jvm.Cond := [Jvm.Cond.code x code maxLocals ret, Jvm.Cond.code ({ cls := "com/example/cairn/cairn/unixfs/Hamt", name := "bucket", desc := "(JI)I" } : Jvm.MethodName) prog_99_method_3_code (3 : Nat) (Option.some Jvm.ClassFile.FieldType.int), Jvm.Cond.code ({ cls := "com/example/cairn/cairn/unixfs/HamtBucketPinLaw", name := "isByte", desc := "(I)Z" } : Jvm.MethodName) method_2_code (1 : Nat) (Option.some Jvm.ClassFile.FieldType.boolean)]
set_option maxRecDepth 65536 in
theorem codes_eq : words1.filter isCode = codes1 := rfl
theorem w_codes : ∀ c ∈ words1.filter isCode, c.before args0 about1 = true := by
  rw [codes_eq]
  intro c hc
  simp only [codes1, List.mem_cons, List.not_mem_nil, or_false] at hc
  rcases hc with rfl | rfl | rfl
  · exact w_c0
  · exact w_c1
  · exact w_c2
set_option maxRecDepth 65536 in
theorem w_t1 : words1.all (fun c => isCode c || c.before args0 about1) = true := by decide +kernel
theorem w_tables : (allAtoms (Jvm.Cond.code x code maxLocals ret :: tables_1)).before args0 about1 = true := by
  rw [allAtoms_all]
  show words1.all (fun c => c.before args0 about1) = true
  refine all_split ?_ w_codes
  rw [w_t1]
set_option maxRecDepth 65536 in
theorem w_case : (Jvm.Cond.and given_1 narrow_1).before args0 about1 = true := by decide +kernel
theorem w_applies : (headSpec (Jvm.Cond.code x code maxLocals ret :: tables_1) room_1).applies x e0.platform about1 = true :=
  (Spec.applies_iff w_frames).mpr ⟨w_running, w_runnable, w_alone, w_named, w_hears, w_ripe, w_room, w_tables⟩
theorem atStart : AtStart classFile x code maxLocals ret World_1 tables_1 room_1 Calls_1 rest_1 Pre_1 launch0 p0 e0 about1 theMethod args0 below0 :=
  ⟨lists_1, trivial, launch0.admits_env _ _ _, launch0.least_env, fairChoices_fair.cas, fairChoices_fair.clock, w_frames, w_args, w_heap, w_applies, trivial, trivial, w_case⟩
end start1
theorem witness_1 : WitnessClaimed_1 := ⟨start1.p0, start1.e0, start1.about1, start1.theMethod, start1.args0, start1.below0, start1.atStart⟩
end Jvm.Pilot.@@N@@
