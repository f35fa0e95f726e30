import JvmDerived
import JvmDerived.Pilot.@@N@@Statement
import JvmDerived.Pilot.@@N@@Code
set_option linter.unusedVariables false
set_option linter.unusedSimpArgs false
namespace Own
open Jvm Jvm.ClassFile Sem Op Lib Jvm.Stand Jvm.Free Jvm.LawKit Jvm.RoadKit
def Fin (p : Program) (e : Env) (below : List Frame) (G : State) (Q : Outcome → State → Prop) : Prop :=
  ∃ s₂ o, Steps p.tables e below G s₂ ∧ s₂.status = .running ∧ Ended s₂ below o ∧ Q o s₂
def Post (s : State) (K : Option Value → Heap → List Loc → Prop) (cc ss : Nat) (o : Outcome) (U : State) : Prop :=
  ∃ v L, o = .returned v ∧ K v U.heap L ∧ FrameEnd s o U L cc ss
theorem go {p : Program} {e : Env} {below : List Frame} {G G' : State} {Q : Outcome → State → Prop} (h : ∀ t, Steps p.tables e below G' t → Steps p.tables e below G t) (k : Fin p e below G' Q) : Fin p e below G Q := by
  obtain ⟨s₂, o, h1, h2⟩ := k
  exact ⟨s₂, o, h _ h1, h2⟩
theorem start {p : Program} {e : Env} {below : List Frame} {T : State} {g g' : JFrame} {Q : Outcome → State → Prop} (q : g = g') (k : Fin p e below (T.setTop g') Q) : Fin p e below (T.setTop g) Q := q ▸ k
theorem clamp_lt {j z : Int32} {n : Nat} (hj : ¬ j < 0 ∧ j < z) (hz : z.toNatClampNeg = n) : j.toNatClampNeg < n := by
  subst hz
  have h1 := hj.1; have h2 := hj.2
  rw [Int32.lt_iff_toInt_lt] at h1 h2
  have h0 : (0 : Int32).toInt = 0 := by decide
  rw [h0] at h1
  show j.toInt.toNat < z.toInt.toNat
  omega
section A
variable {p : Program} {l : Launch} {e : Env} {R : Room} {s : State} {m : MethodId} {args : Array Value} {below : List Frame} {meth : Method} {c : Code} {T : State} {locs : List Loc} {cells slots : Nat}
theorem retAny (X : Stand p l e R s m args below meth c T locs cells slots) {v : Option Value} (hlk : meth.locks = false) (hv : meth.sig.returnType = none → v = none) {g : JFrame}
    (hstep : ∀ fs, (∀ (f : JFrame) (acts : List Action), f.method = m → f.locked = none → f.entered = [] → (doReturn e (T.setTop f) acts v).1 = T.setFrames fs) → Steps p.tables e below (T.setTop g) (T.setFrames fs))
    {K : Option Value → Heap → List Loc → Prop} {cc ss : Nat} (hc : cells ≤ cc) (hs : slots ≤ ss) (hk : K v T.heap locs) : Fin p e below (T.setTop g) (Post s K cc ss) := by
  obtain ⟨fs, hr, hrun, hended, hW, hsame⟩ := X.leave (v := v) hv hlk
  exact ⟨_, _, hstep fs hr, hrun, hended, _, _, rfl, hk, ⟨_, rfl⟩, hW, hsame.mono hc hs⟩
theorem retI (X : Stand p l e R s m args below meth c T locs cells slots) (hx : p.tables.exec = Jvm.exec) (hlk : meth.locks = false) (hret : meth.sig.returnType = some .int) {pc : Nat} {Ls : Array Slot} {z : Int32} {rest : List Value} (hd : decode c.code pc = .ok (.ireturn, 1))
    {K : Option Value → Heap → List Loc → Prop} {cc ss : Nat} (hc : cells ≤ cc) (hs : slots ≤ ss) (hk : K (some (.int z)) T.heap locs) : Fin p e below (T.setTop (mkF m pc Ls (.int z :: rest))) (Post s K cc ss) := by
  refine retAny X (v := some (.int z)) hlk (fun h => by rw [hret] at h; cases h) (fun fs hl => ?_) hc hs hk
  have hm' : T.vm.method? m = some meth := X.method'
  have hn : narrow .int (.int z) = .int z := rfl
  show Steps p.tables e below (T.setTop { method := m, pc := pc, locals := Ls, stack := _ :: rest, locked := none }) _
  jvm_step X.here [X.here.top, hx, hd, hm', hret, hn]
  first | (intro acts; rw [hl _ acts rfl rfl rfl]) | rw [hl _ _ rfl rfl rfl]
  exact Steps.refl _
theorem retN (X : Stand p l e R s m args below meth c T locs cells slots) (hx : p.tables.exec = Jvm.exec) (hlk : meth.locks = false) {t : FieldType} (hret : meth.sig.returnType = some t) (ht : t = .boolean ∨ t = .byte ∨ t = .char ∨ t = .short) {pc : Nat} {Ls : Array Slot} {z : Int32} {rest : List Value} (hd : decode c.code pc = .ok (.ireturn, 1))
    {K : Option Value → Heap → List Loc → Prop} {cc ss : Nat} (hc : cells ≤ cc) (hs : slots ≤ ss) (hk : K (some (.int (nar t z))) T.heap locs) : Fin p e below (T.setTop (mkF m pc Ls (.int z :: rest))) (Post s K cc ss) :=
  retAny X (v := some (.int (nar t z))) hlk (fun h => by rw [hret] at h; cases h) (fun fs hl => RoadKit.retN X hx hret ht hd hl) hc hs hk
theorem retJ (X : Stand p l e R s m args below meth c T locs cells slots) (hx : p.tables.exec = Jvm.exec) (hlk : meth.locks = false) (hret : meth.sig.returnType = some .long) {pc : Nat} {Ls : Array Slot} {z : Int64} {rest : List Value} (hd : decode c.code pc = .ok (.lreturn, 1))
    {K : Option Value → Heap → List Loc → Prop} {cc ss : Nat} (hc : cells ≤ cc) (hs : slots ≤ ss) (hk : K (some (.long z)) T.heap locs) : Fin p e below (T.setTop (mkF m pc Ls (.long z :: rest))) (Post s K cc ss) := by
  refine retAny X (v := some (.long z)) hlk (fun h => by rw [hret] at h; cases h) (fun fs hl => ?_) hc hs hk
  have hm' : T.vm.method? m = some meth := X.method'
  show Steps p.tables e below (T.setTop { method := m, pc := pc, locals := Ls, stack := _ :: rest, locked := none }) _
  jvm_step X.here [X.here.top, hx, hd, hm', hret, narrow]
  first | (intro acts; rw [hl _ acts rfl rfl rfl]) | rw [hl _ _ rfl rfl rfl]
  exact Steps.refl _
theorem retV (X : Stand p l e R s m args below meth c T locs cells slots) (hx : p.tables.exec = Jvm.exec) (hlk : meth.locks = false) (hret : meth.sig.returnType = none) {pc : Nat} {Ls : Array Slot} (hd : decode c.code pc = .ok (.return_, 1))
    {K : Option Value → Heap → List Loc → Prop} {cc ss : Nat} (hc : cells ≤ cc) (hs : slots ≤ ss) (hk : K none T.heap locs) : Fin p e below (T.setTop (mkF m pc Ls [])) (Post s K cc ss) :=
  retAny X (v := none) hlk (fun _ => rfl) (fun fs hl => X.returnOut hx hret hd hl) hc hs hk
theorem cS {Z : State} {a0 : Array Value} {h : Heap} (X : Stand p l e R s m args below meth c T locs cells slots) (hx : p.tables.exec = Jvm.exec) (hZ : Z.Warmed39 s.vm) {own : String} {index : Nat} {y : MethodName} {bytes : ByteArray} {maxL : Nat} {ret : Option FieldType} {rm : Room} {as' : Array Value} {Q : Option Value → Heap → List Loc → Prop}
    (hown : s.vm.findClass own = some m.cls) (w1 : (Cond.methodLink own index y).before a0 Z = true) (w2 : (Cond.static y).before a0 Z = true) (w3 : (Cond.initialized y.cls).before a0 Z = true) (w4 : (Cond.code y bytes maxL ret).before a0 Z = true)
    (hy : y.cls ≠ "java/lang/invoke/MethodHandle" ∧ y.cls ≠ "java/lang/invoke/VarHandle")
    (hM : MetFree l y (head1 [Cond.code y bytes maxL ret] rm) (fun a U => a = as' ∧ Z.Warmed39 U.vm ∧ U.heap = h) (fun _ _ _ _ _ => True) (fun _ U o U' => ∃ v L, o = .returned v ∧ Q v U'.heap L ∧ FrameEnd U o U' L rm.cells rm.slots))
    (hf : rm.frames + 1 ≤ R.frames) {W : Nat} (hl : W + (maxL + 11) + rm.locals ≤ R.locals) {pc : Nat} {ls : Array Slot} {argsL rest : List Value} (hsize : ls.size = c.maxLocals) (hlen : ∀ sig, parseMethodDescriptor y.desc = some sig → argsL.length = sig.parameters.length)
    (has : argsL.toArray = as') (hW : (rest.map fun v => v.category).sum ≤ W) (hd : decode c.code pc = .ok (.invokestatic index, 3)) (eT : T.heap = h) (hcc : cells + rm.cells ≤ R.cells) (hss : slots + rm.slots ≤ R.slots) {P : Outcome → State → Prop}
    (k : ∀ T' L v, Stand p l e R s m args below meth c T' (locs ++ L) (cells + rm.cells) (slots + rm.slots) → Q v T'.heap L → Fin p e below (T'.setTop (mkF m (pc + 3) ls (v.toList ++ rest))) P) :
    Fin p e below (T.setTop (mkF m pc ls (argsL.reverse ++ rest))) P := by
  obtain ⟨v, _, ⟨T', L', k', n'⟩, -, X', ⟨L, hQ, e1, e2, e3⟩, st⟩ := Jvm.LawKit.callS X hx (y := y) hown (mvT hZ w1) (mvT hZ w2) (mvT hZ w3) (mvT hZ w4) hy (backOf (W := W) hM hZ w4 w3 hf hl) (g := mkF m pc ls (argsL.reverse ++ rest)) rfl hsize (argsL := argsL) (rest := rest) hlen rfl
    (by show 2 * 0 + _ ≤ _; omega) hd (fun _ _ => ⟨has, eT, hcc, hss⟩)
  dsimp only [Pt.U, Pt.locs, Pt.cells, Pt.slots] at X' e1 e2 e3 st hQ
  subst e1 e2 e3
  exact go st (k T' L v X' hQ)
theorem cI {Z : State} {a0 : Array Value} {h : Heap} (X : Stand p l e R s m args below meth c T locs cells slots) (hx : p.tables.exec = Jvm.exec) (hZ : Z.Warmed39 s.vm) {own : String} {index : Nat} {y : MethodName} {bytes : ByteArray} {maxL : Nat} {rm : Room} {as' : Array Value} {Q : Option Value → Heap → List Loc → Prop}
    (hy1 : y.name = "<init>") (hown : s.vm.findClass own = some m.cls) (w1 : (Cond.methodLink own index y).before a0 Z = true) (w2 : (Cond.instanceMethod y).before a0 Z = true) (w3 : (Cond.initialized y.cls).before a0 Z = true) (w4 : (Cond.code y bytes maxL none).before a0 Z = true)
    (hy : y.cls ≠ "java/lang/invoke/MethodHandle" ∧ y.cls ≠ "java/lang/invoke/VarHandle")
    (hM : MetFree l y (head1 [Cond.code y bytes maxL none] rm) (fun a U => a = as' ∧ Z.Warmed39 U.vm ∧ U.heap = h) (fun _ _ _ _ _ => True) (fun _ U o U' => ∃ v L, o = .returned v ∧ Q v U'.heap L ∧ FrameEnd U o U' L rm.cells rm.slots))
    (hf : rm.frames + 1 ≤ R.frames) {W : Nat} (hl : W + (maxL + 11) + rm.locals ≤ R.locals) {pc : Nat} {ls : Array Slot} {a : Addr} {argsL rest : List Value} (hsize : ls.size = c.maxLocals) (hlen : ∀ sig, parseMethodDescriptor y.desc = some sig → argsL.length = sig.parameters.length)
    (has : (Value.ref a :: argsL).toArray = as') (hW : (rest.map fun v => v.category).sum ≤ W) (hd : decode c.code pc = .ok (.invokespecial index, 3)) (eT : T.heap = h) (hcc : cells + rm.cells ≤ R.cells) (hss : slots + rm.slots ≤ R.slots) {P : Outcome → State → Prop}
    (k : ∀ T' L v, Stand p l e R s m args below meth c T' (locs ++ L) (cells + rm.cells) (slots + rm.slots) → Q v T'.heap L → Fin p e below (T'.setTop (mkF m (pc + 3) ls (v.toList ++ rest))) P) :
    Fin p e below (T.setTop (mkF m pc ls (argsL.reverse ++ .ref a :: rest))) P := by
  obtain ⟨v, _, ⟨T', L', k', n'⟩, -, X', ⟨L, hQ, e1, e2, e3⟩, st⟩ := X.specialBack hx (y := y) hy1 hown (mvT hZ w1) (mvT hZ w2) (mvT hZ w4) hy (backOf (W := W) hM hZ w4 w3 hf hl) (g := mkF m pc ls (argsL.reverse ++ .ref a :: rest)) rfl hsize (Steps.refl _) (a := a) (argsL := argsL) (rest := rest) hlen rfl
    (by show 2 * 0 + _ ≤ _; omega) hd (fun _ _ => ⟨has, eT, hcc, hss⟩)
  dsimp only [Pt.U, Pt.locs, Pt.cells, Pt.slots] at X' e1 e2 e3 st hQ
  subst e1 e2 e3
  exact go (fun t kt => st.trans kt) (k T' L v X' hQ)
theorem cV {Z : State} {a0 : Array Value} {h : Heap} (X : Stand p l e R s m args below meth c T locs cells slots) (hx : p.tables.exec = Jvm.exec) (hZ : Z.Warmed39 s.vm) {own C : String} {index : Nat} {y z : MethodName} {bytes : ByteArray} {maxL : Nat} {ret : Option FieldType} {rm : Room} {as' : Array Value} {Q : Option Value → Heap → List Loc → Prop}
    (hown : s.vm.findClass own = some m.cls) (w1 : (Cond.methodLink own index y).before a0 Z = true) (w2 : (Cond.declares y).before a0 Z = true) (hnf : NotFace s y) (w5 : (Cond.selects C y z).before a0 Z = true) (w6 : (Cond.instanceMethod z).before a0 Z = true) (w3 : (Cond.initialized z.cls).before a0 Z = true) (w4 : (Cond.code z bytes maxL ret).before a0 Z = true)
    (hy : y.cls ≠ "java/lang/invoke/MethodHandle" ∧ y.cls ≠ "java/lang/invoke/VarHandle")
    (hM : MetFree l z (head1 [Cond.code z bytes maxL ret] rm) (fun a U => a = as' ∧ Z.Warmed39 U.vm ∧ U.heap = h) (fun _ _ _ _ _ => True) (fun _ U o U' => ∃ v L, o = .returned v ∧ Q v U'.heap L ∧ FrameEnd U o U' L rm.cells rm.slots))
    (hf : rm.frames + 1 ≤ R.frames) {W : Nat} (hl : W + (maxL + 11) + rm.locals ≤ R.locals) {pc : Nat} {ls : Array Slot} {a : Addr} {argsL rest : List Value} (E : Exa Z h a C) (hsize : ls.size = c.maxLocals) (hlen : ∀ sig, parseMethodDescriptor y.desc = some sig → argsL.length = sig.parameters.length)
    (has : (Value.ref a :: argsL).toArray = as') (hW : (rest.map fun v => v.category).sum ≤ W) (hd : decode c.code pc = .ok (.invokevirtual index, 3)) (eT : T.heap = h) (hcc : cells + rm.cells ≤ R.cells) (hss : slots + rm.slots ≤ R.slots) {P : Outcome → State → Prop}
    (k : ∀ T' L v, Stand p l e R s m args below meth c T' (locs ++ L) (cells + rm.cells) (slots + rm.slots) → Q v T'.heap L → Fin p e below (T'.setTop (mkF m (pc + 3) ls (v.toList ++ rest))) P) :
    Fin p e below (T.setTop (mkF m pc ls (argsL.reverse ++ .ref a :: rest))) P := by
  obtain ⟨cq, kq, qa, qb, qc⟩ := isOf hZ eT E
  obtain ⟨v, _, ⟨T', L', k', n'⟩, -, X', ⟨L, hQ, e1, e2, e3⟩, st⟩ := X.virtualBack hx (y := y) (z := z) hown (mvT hZ w1) (mvT hZ w2) hnf (mvT hZ w5) (mvT hZ w6) hy (backOf (W := W) hM hZ w4 w3 hf hl) qa qc (g := mkF m pc ls (argsL.reverse ++ .ref a :: rest)) rfl hsize (Steps.refl _) (argsL := argsL) (rest := rest) hlen rfl
    (by show 2 * 0 + _ ≤ _; omega) hd (fun _ _ => ⟨has, eT, hcc, hss⟩)
  dsimp only [Pt.U, Pt.locs, Pt.cells, Pt.slots] at X' e1 e2 e3 st hQ
  subst e1 e2 e3
  exact go (fun t kt => st.trans kt) (k T' L v X' hQ)
theorem newA {Z : State} {a0 : Array Value} {h : Heap} (X : Stand p l e R s m args below meth c T locs cells slots) (hx : p.tables.exec = Jvm.exec) (hZ : Z.Warmed39 s.vm) {aty : ArrayType} (w : (Cond.arrayClass (newarray.typeOf aty)).before a0 Z = true) (eT : T.heap = h)
    {pc : Nat} {ls : Array Slot} {n : Int32} {rest : List Value} (hd : decode c.code pc = .ok (.newarray aty, 2)) (hn : ¬ n < 0) (cap : Nat) (hcap : n.toNatClampNeg ≤ cap) (hb : cap * 8 ≤ 536870912) (hc : cells + 1 ≤ R.cells) (hl : slots + cap ≤ R.slots) {P : Outcome → State → Prop}
    (k : ∀ T' h' b kA, Stand p l e R s m args below meth c T' locs (cells + 1) (slots + cap) → T'.heap = h' → Ext h h' → b = h.size → Arv Z h' b kA (newarray.typeOf aty) n [] (defaultValue (newarray.typeOf aty)) → Fin p e below (T'.setTop (mkF m (pc + 2) ls (.ref b :: rest))) P) :
    Fin p e below (T.setTop (mkF m pc ls (.int n :: rest))) P := by
  obtain ⟨T', h', kA, X', e', E', A', st⟩ := newP X hx hZ w eT (g := mkF m pc ls (.int n :: rest)) rfl hd rfl hn hcap hb hc hl
  exact go st (k T' h' _ kA X' e' E' rfl (Arv.new A' hn))
theorem stI {Z : State} {h : Heap} {a : Addr} {kA : ClassId} {z : Int32} {vs : List Value} {dv : Value} (X : Stand p l e R s m args below meth c T locs cells slots) (hx : p.tables.exec = Jvm.exec) (hZ : Z.Warmed39 s.vm) (eT : T.heap = h) (V : Arv Z h a kA .int z vs dv)
    {pc : Nat} {ls : Array Slot} {j x : Int32} {rest : List Value} (hd : decode c.code pc = .ok (.iastore, 1)) (hj : ¬ j < 0 ∧ j < z) (i : Nat) (hi : j.toNatClampNeg = i) (hlen : i < vs.length) {P : Outcome → State → Prop}
    (k : ∀ T' h', Stand p l e R s m args below meth c T' (locs ++ [⟨a, j.toNatClampNeg⟩]) cells slots → T'.heap = h' → Wr h h' a j.toNatClampNeg (.int x) → Arv Z h' a kA .int z (vs.set i (.int x)) dv → Fin p e below (T'.setTop (mkF m (pc + 1) ls rest)) P) :
    Fin p e below (T.setTop (mkF m pc ls (.int x :: .int j :: .ref a :: rest))) P := by
  obtain ⟨cl, Ar, q, S, N, H, G⟩ := V
  obtain ⟨T', h', X', e', W', st⟩ := RoadKit.stI X hx hZ eT Ar (j := j) (inb_of S hj) (g := mkF m pc ls (.int x :: .int j :: .ref a :: rest)) rfl rfl hd
  exact go st (k T' h' X' e' W' (Arv.set Ar q S N H G rfl W' i hi hlen))
theorem stJ {Z : State} {h : Heap} {a : Addr} {kA : ClassId} {z : Int32} {vs : List Value} {dv : Value} (X : Stand p l e R s m args below meth c T locs cells slots) (hx : p.tables.exec = Jvm.exec) (hZ : Z.Warmed39 s.vm) (eT : T.heap = h) (V : Arv Z h a kA .long z vs dv)
    {pc : Nat} {ls : Array Slot} {j : Int32} {x : Int64} {rest : List Value} (hd : decode c.code pc = .ok (.lastore, 1)) (hj : ¬ j < 0 ∧ j < z) (i : Nat) (hi : j.toNatClampNeg = i) (hlen : i < vs.length) {P : Outcome → State → Prop}
    (k : ∀ T' h', Stand p l e R s m args below meth c T' (locs ++ [⟨a, j.toNatClampNeg⟩]) cells slots → T'.heap = h' → Wr h h' a j.toNatClampNeg (.long x) → Arv Z h' a kA .long z (vs.set i (.long x)) dv → Fin p e below (T'.setTop (mkF m (pc + 1) ls rest)) P) :
    Fin p e below (T.setTop (mkF m pc ls (.long x :: .int j :: .ref a :: rest))) P := by
  obtain ⟨cl, Ar, q, S, N, H, G⟩ := V
  obtain ⟨T', h', X', e', W', st⟩ := RoadKit.stJ X hx hZ eT Ar (j := j) (inb_of S hj) (g := mkF m pc ls (.long x :: .int j :: .ref a :: rest)) rfl rfl hd
  exact go st (k T' h' X' e' W' (Arv.set Ar q S N H G rfl W' i hi hlen))
theorem stB {Z : State} {h : Heap} {a : Addr} {kA : ClassId} {z : Int32} {vs : List Value} {dv : Value} (X : Stand p l e R s m args below meth c T locs cells slots) (hx : p.tables.exec = Jvm.exec) (hZ : Z.Warmed39 s.vm) (eT : T.heap = h) (V : Arv Z h a kA .byte z vs dv)
    {pc : Nat} {ls : Array Slot} {j x : Int32} {rest : List Value} (hd : decode c.code pc = .ok (.bastore, 1)) (hj : ¬ j < 0 ∧ j < z) (i : Nat) (hi : j.toNatClampNeg = i) (hlen : i < vs.length) {P : Outcome → State → Prop}
    (k : ∀ T' h', Stand p l e R s m args below meth c T' (locs ++ [⟨a, j.toNatClampNeg⟩]) cells slots → T'.heap = h' → Wr h h' a j.toNatClampNeg (.int (nar .byte x)) → Arv Z h' a kA .byte z (vs.set i (.int (nar .byte x))) dv → Fin p e below (T'.setTop (mkF m (pc + 1) ls rest)) P) :
    Fin p e below (T.setTop (mkF m pc ls (.int x :: .int j :: .ref a :: rest))) P := by
  obtain ⟨cl, Ar, q, S, N, H, G⟩ := V
  obtain ⟨T', h', X', e', W', st⟩ := RoadKit.stB X hx hZ eT Ar (j := j) (inb_of S hj) (g := mkF m pc ls (.int x :: .int j :: .ref a :: rest)) rfl rfl hd
  exact go st (k T' h' X' e' W' (Arv.set Ar q S N H G (fits_nar_byte _) W' i hi hlen))
theorem stC {Z : State} {h : Heap} {a : Addr} {kA : ClassId} {z : Int32} {vs : List Value} {dv : Value} (X : Stand p l e R s m args below meth c T locs cells slots) (hx : p.tables.exec = Jvm.exec) (hZ : Z.Warmed39 s.vm) (eT : T.heap = h) (V : Arv Z h a kA .char z vs dv)
    {pc : Nat} {ls : Array Slot} {j x : Int32} {rest : List Value} (hd : decode c.code pc = .ok (.castore, 1)) (hj : ¬ j < 0 ∧ j < z) (i : Nat) (hi : j.toNatClampNeg = i) (hlen : i < vs.length) {P : Outcome → State → Prop}
    (k : ∀ T' h', Stand p l e R s m args below meth c T' (locs ++ [⟨a, j.toNatClampNeg⟩]) cells slots → T'.heap = h' → Wr h h' a j.toNatClampNeg (.int (nar .char x)) → Arv Z h' a kA .char z (vs.set i (.int (nar .char x))) dv → Fin p e below (T'.setTop (mkF m (pc + 1) ls rest)) P) :
    Fin p e below (T.setTop (mkF m pc ls (.int x :: .int j :: .ref a :: rest))) P := by
  obtain ⟨cl, Ar, q, S, N, H, G⟩ := V
  obtain ⟨T', h', X', e', W', st⟩ := RoadKit.stC X hx hZ eT Ar (j := j) (inb_of S hj) (g := mkF m pc ls (.int x :: .int j :: .ref a :: rest)) rfl rfl hd
  exact go st (k T' h' X' e' W' (Arv.set Ar q S N H G (fits_nar_char _) W' i hi hlen))
theorem alen {Z : State} {h : Heap} {a : Addr} {kA : ClassId} {ty : FieldType} {z : Int32} {vs : List Value} {dv : Value} (X : Stand p l e R s m args below meth c T locs cells slots) (hx : p.tables.exec = Jvm.exec) (hZ : Z.Warmed39 s.vm) (eT : T.heap = h) (V : Arv Z h a kA ty z vs dv)
    {pc : Nat} {ls : Array Slot} {rest : List Value} (hd : decode c.code pc = .ok (.arraylength, 1)) {P : Outcome → State → Prop} (k : Fin p e below (T.setTop (mkF m (pc + 1) ls (.int z :: rest))) P) :
    Fin p e below (T.setTop (mkF m pc ls (.ref a :: rest))) P := by
  obtain ⟨cl, Ar, q, S, N, H, G⟩ := V
  refine go (fun t kt => X.arraylength hx (by rw [eT]; exact Ar.1) (State.isArrayOf_alike hZ.alike Ar.2.1) (g := mkF m pc ls (.ref a :: rest)) rfl rfl hd t kt) ?_
  rw [len_of S N]
  exact k
theorem arv_at {Z : State} {h : Heap} {a : Addr} {kA : ClassId} {ty : FieldType} {z : Int32} {vs : List Value} {dv : Value} (V : Arv Z h a kA ty z vs dv) {j : Int32} (hj : ¬ j < 0 ∧ j < z) :
    ∃ cl, Arr Z h a cl ty ∧ ¬ (j < 0 ∨ cl.slots.size ≤ j.toNatClampNeg) ∧ cl.slots[j.toNatClampNeg]? = some (vs.getD j.toNatClampNeg dv) ∧ fits ty (vs.getD j.toNatClampNeg dv) = true := by
  obtain ⟨cl, Ar, q, S, N, H, G⟩ := V
  have hin := inb_of S hj
  have hlt : j.toNatClampNeg < cl.slots.size := Nat.lt_of_not_le fun q => hin (Or.inr q)
  exact ⟨cl, Ar, hin, H _ hlt, G _ hlt⟩
theorem ldI {Z : State} {h : Heap} {a : Addr} {kA : ClassId} {z : Int32} {vs : List Value} {dv : Value} (X : Stand p l e R s m args below meth c T locs cells slots) (hx : p.tables.exec = Jvm.exec) (hZ : Z.Warmed39 s.vm) (eT : T.heap = h) (V : Arv Z h a kA .int z vs dv)
    {pc : Nat} {ls : Array Slot} {j : Int32} {rest : List Value} (hd : decode c.code pc = .ok (.iaload, 1)) (hj : ¬ j < 0 ∧ j < z) {P : Outcome → State → Prop} (k : ∀ x, vs.getD j.toNatClampNeg dv = .int x → Fin p e below (T.setTop (mkF m (pc + 1) ls (.int x :: rest))) P) :
    Fin p e below (T.setTop (mkF m pc ls (.int j :: .ref a :: rest))) P := by
  obtain ⟨cl, Ar, hin, hat, hf⟩ := arv_at V hj
  obtain ⟨x, hx'⟩ := fit_I hf (Or.inl rfl)
  refine go (fun t kt => X.iaload hx (j := j) (v := .int x) (by rw [eT]; exact Ar.1) (State.isArrayOf_alike hZ.alike Ar.2.1) Ar.2.2 hin (by rw [hat, hx']) (g := mkF m pc ls (.int j :: .ref a :: rest)) rfl rfl hd t kt) (k x hx')
theorem ldJ {Z : State} {h : Heap} {a : Addr} {kA : ClassId} {z : Int32} {vs : List Value} {dv : Value} (X : Stand p l e R s m args below meth c T locs cells slots) (hx : p.tables.exec = Jvm.exec) (hZ : Z.Warmed39 s.vm) (eT : T.heap = h) (V : Arv Z h a kA .long z vs dv)
    {pc : Nat} {ls : Array Slot} {j : Int32} {rest : List Value} (hd : decode c.code pc = .ok (.laload, 1)) (hj : ¬ j < 0 ∧ j < z) {P : Outcome → State → Prop} (k : ∀ x, vs.getD j.toNatClampNeg dv = .long x → Fin p e below (T.setTop (mkF m (pc + 1) ls (.long x :: rest))) P) :
    Fin p e below (T.setTop (mkF m pc ls (.int j :: .ref a :: rest))) P := by
  obtain ⟨cl, Ar, hin, hat, hf⟩ := arv_at V hj
  obtain ⟨x, hx'⟩ := fit_J hf
  refine go (fun t kt => X.laload hx (j := j) (v := .long x) (by rw [eT]; exact Ar.1) (State.isArrayOf_alike hZ.alike Ar.2.1) Ar.2.2 hin (by rw [hat, hx']) (g := mkF m pc ls (.int j :: .ref a :: rest)) rfl rfl hd t kt) (k x hx')
theorem ldB {Z : State} {h : Heap} {a : Addr} {kA : ClassId} {z : Int32} {vs : List Value} {dv : Value} (X : Stand p l e R s m args below meth c T locs cells slots) (hx : p.tables.exec = Jvm.exec) (hZ : Z.Warmed39 s.vm) (eT : T.heap = h) (V : Arv Z h a kA .byte z vs dv)
    {pc : Nat} {ls : Array Slot} {j : Int32} {rest : List Value} (hd : decode c.code pc = .ok (.baload, 1)) (hj : ¬ j < 0 ∧ j < z) {P : Outcome → State → Prop} (k : ∀ x, vs.getD j.toNatClampNeg dv = .int x → Fin p e below (T.setTop (mkF m (pc + 1) ls (.int x :: rest))) P) :
    Fin p e below (T.setTop (mkF m pc ls (.int j :: .ref a :: rest))) P := by
  obtain ⟨cl, Ar, hin, hat, hf⟩ := arv_at V hj
  obtain ⟨x, hx'⟩ := fit_I hf (Or.inr (Or.inr (Or.inl rfl)))
  refine go (fun t kt => X.baloadBytes hx (j := j) (v := .int x) (by rw [eT]; exact Ar.1) (State.isArrayOf_alike hZ.alike Ar.2.1) Ar.2.2 hin (by rw [hat, hx']) (g := mkF m pc ls (.int j :: .ref a :: rest)) rfl rfl hd t kt) (k x hx')
theorem ldC {Z : State} {h : Heap} {a : Addr} {kA : ClassId} {z : Int32} {vs : List Value} {dv : Value} (X : Stand p l e R s m args below meth c T locs cells slots) (hx : p.tables.exec = Jvm.exec) (hZ : Z.Warmed39 s.vm) (eT : T.heap = h) (V : Arv Z h a kA .char z vs dv)
    {pc : Nat} {ls : Array Slot} {j : Int32} {rest : List Value} (hd : decode c.code pc = .ok (.caload, 1)) (hj : ¬ j < 0 ∧ j < z) {P : Outcome → State → Prop} (k : ∀ x, vs.getD j.toNatClampNeg dv = .int x → Fin p e below (T.setTop (mkF m (pc + 1) ls (.int x :: rest))) P) :
    Fin p e below (T.setTop (mkF m pc ls (.int j :: .ref a :: rest))) P := by
  obtain ⟨cl, Ar, hin, hat, hf⟩ := arv_at V hj
  obtain ⟨x, hx'⟩ := fit_I hf (Or.inr (Or.inr (Or.inr (Or.inl rfl))))
  refine go (fun t kt => X.caload hx (j := j) (v := .int x) (by rw [eT]; exact Ar.1) (State.isArrayOf_alike hZ.alike Ar.2.1) Ar.2.2 hin (by rw [hat, hx']) (g := mkF m pc ls (.int j :: .ref a :: rest)) rfl rfl hd t kt) (k x hx')
theorem ldR {Z : State} {h : Heap} {a : Addr} {kA : ClassId} {ty : FieldType} {z : Int32} {vs : List Value} {dv : Value} (X : Stand p l e R s m args below meth c T locs cells slots) (hx : p.tables.exec = Jvm.exec) (hZ : Z.Warmed39 s.vm) (eT : T.heap = h) (V : Arv Z h a kA ty z vs dv) (ht : ty.isReference = true)
    {pc : Nat} {ls : Array Slot} {j : Int32} {rest : List Value} (hd : decode c.code pc = .ok (.aaload, 1)) (hj : ¬ j < 0 ∧ j < z) {w : Value} (hv : vs.getD j.toNatClampNeg dv = w) {P : Outcome → State → Prop} (k : Fin p e below (T.setTop (mkF m (pc + 1) ls (w :: rest))) P) :
    Fin p e below (T.setTop (mkF m pc ls (.int j :: .ref a :: rest))) P := by
  obtain ⟨cl, Ar, hin, hat, hf⟩ := arv_at V hj
  exact go (fun t kt => X.aaload hx (j := j) (v := w) (by rw [eT]; exact Ar.1) (State.isArrayOf_alike hZ.alike Ar.2.1) ht Ar.2.2 hin (by rw [hat, hv]) (g := mkF m pc ls (.int j :: .ref a :: rest)) rfl rfl hd t kt) k
theorem ldBc {Z : State} {h : Heap} {a : Addr} {cl : Cell} (X : Stand p l e R s m args below meth c T locs cells slots) (hx : p.tables.exec = Jvm.exec) (hZ : Z.Warmed39 s.vm) (eT : T.heap = h) (A : Arr Z h a cl .byte)
    {pc : Nat} {ls : Array Slot} {j x : Int32} {rest : List Value} (hd : decode c.code pc = .ok (.baload, 1)) (hin : ¬ (j < 0 ∨ cl.slots.size ≤ j.toNatClampNeg)) (hv : cl.slots[j.toNatClampNeg]? = some (.int x)) {P : Outcome → State → Prop} (k : Fin p e below (T.setTop (mkF m (pc + 1) ls (.int x :: rest))) P) :
    Fin p e below (T.setTop (mkF m pc ls (.int j :: .ref a :: rest))) P :=
  go (fun t kt => X.baloadBytes hx (j := j) (v := .int x) (by rw [eT]; exact A.1) (State.isArrayOf_alike hZ.alike A.2.1) A.2.2 hin hv (g := mkF m pc ls (.int j :: .ref a :: rest)) rfl rfl hd t kt) k
theorem alenC {Z : State} {h : Heap} {a : Addr} {cl : Cell} {ty : FieldType} {z : Int32} (X : Stand p l e R s m args below meth c T locs cells slots) (hx : p.tables.exec = Jvm.exec) (hZ : Z.Warmed39 s.vm) (eT : T.heap = h) (A : Arr Z h a cl ty) (hz : cl.slots.size.toInt32 = z)
    {pc : Nat} {ls : Array Slot} {rest : List Value} (hd : decode c.code pc = .ok (.arraylength, 1)) {P : Outcome → State → Prop} (k : Fin p e below (T.setTop (mkF m (pc + 1) ls (.int z :: rest))) P) :
    Fin p e below (T.setTop (mkF m pc ls (.ref a :: rest))) P := by
  refine go (fun t kt => X.arraylength hx (by rw [eT]; exact A.1) (State.isArrayOf_alike hZ.alike A.2.1) (g := mkF m pc ls (.ref a :: rest)) rfl rfl hd t kt) ?_
  rw [hz]
  exact k
theorem retR (X : Stand p l e R s m args below meth c T locs cells slots) (hx : p.tables.exec = Jvm.exec) (hlk : meth.locks = false) {t : FieldType} (hret : meth.sig.returnType = some t) (ht : t.isReference = true) {pc : Nat} {Ls : Array Slot} {z : Value} (hz : z.isRef = true) {rest : List Value} (hd : decode c.code pc = .ok (.areturn, 1))
    {K : Option Value → Heap → List Loc → Prop} {cc ss : Nat} (hc : cells ≤ cc) (hs : slots ≤ ss) (hk : K (some z) T.heap locs) : Fin p e below (T.setTop (mkF m pc Ls (z :: rest))) (Post s K cc ss) := by
  refine retAny X (v := some z) hlk (fun h => by rw [hret] at h; cases h) (fun fs hl => ?_) hc hs hk
  have hm' : T.vm.method? m = some meth := X.method'
  show Steps p.tables e below (T.setTop { method := m, pc := pc, locals := Ls, stack := _ :: rest, locked := none }) _
  jvm_step X.here [X.here.top, hx, hd, hm', hret, ht, hz]
  first | (intro acts; rw [hl _ acts rfl rfl rfl]) | rw [hl _ _ rfl rfl rfl]
  exact Steps.refl _
theorem cP {Z : State} {a0 : Array Value} {h : Heap} (X : Stand p l e R s m args below meth c T locs cells slots) (hx : p.tables.exec = Jvm.exec) (hZ : Z.Warmed39 s.vm) {own C : String} {index : Nat} {y y' : MethodName} {bytes : ByteArray} {maxL : Nat} {ret : Option FieldType} {rm : Room} {as' : Array Value} {Q : Option Value → Heap → List Loc → Prop}
    (hown : s.vm.findClass own = some m.cls) (w1 : (Cond.methodLink own index y).before a0 Z = true) (w2 : (Cond.instanceMethod y).before a0 Z = true) (w5 : (Cond.privateMethod y).before a0 Z = true) (w7 : (Cond.selects C y' y').before a0 Z = true) (hcl : y'.cls = y.cls) (w3 : (Cond.initialized y.cls).before a0 Z = true) (w4 : (Cond.code y bytes maxL ret).before a0 Z = true)
    (hy : y.cls ≠ "java/lang/invoke/MethodHandle" ∧ y.cls ≠ "java/lang/invoke/VarHandle")
    (hM : MetFree l y (head1 [Cond.code y bytes maxL ret] rm) (fun a U => a = as' ∧ Z.Warmed39 U.vm ∧ U.heap = h) (fun _ _ _ _ _ => True) (fun _ U o U' => ∃ v L, o = .returned v ∧ Q v U'.heap L ∧ FrameEnd U o U' L rm.cells rm.slots))
    (hf : rm.frames + 1 ≤ R.frames) {W : Nat} (hl : W + (maxL + 11) + rm.locals ≤ R.locals) {pc : Nat} {ls : Array Slot} {a : Addr} {argsL rest : List Value} {C' : String} (E : Exa Z h a C') (hsize : ls.size = c.maxLocals) (hlen : ∀ sig, parseMethodDescriptor y.desc = some sig → argsL.length = sig.parameters.length)
    (has : (Value.ref a :: argsL).toArray = as') (hW : (rest.map fun v => v.category).sum ≤ W) (hd : decode c.code pc = .ok (.invokevirtual index, 3)) (eT : T.heap = h) (hcc : cells + rm.cells ≤ R.cells) (hss : slots + rm.slots ≤ R.slots) {P : Outcome → State → Prop}
    (k : ∀ T' L v, Stand p l e R s m args below meth c T' (locs ++ L) (cells + rm.cells) (slots + rm.slots) → Q v T'.heap L → Fin p e below (T'.setTop (mkF m (pc + 3) ls (v.toList ++ rest))) P) :
    Fin p e below (T.setTop (mkF m pc ls (argsL.reverse ++ .ref a :: rest))) P := by
  have hpr : s.PrivateAt y := Cond.privateMethod_at (mvP hZ w5 (args := #[]))
  have hsel : (Cond.selects y.cls y y).before args s = true := by
    obtain ⟨c2, r2, m2, q1, q2, q3, q4, kP, hkP, hkPi⟩ := Cond.selects_spec (mvT (args := args) hZ w7)
    exact selects_self_of_private (hcl ▸ findClass_of_methodNamed q3) hkP hkPi hpr (mvT hZ w2) hy
  obtain ⟨cq, q1, q2⟩ := E.cell
  obtain ⟨v, _, ⟨T', L', k', n'⟩, -, X', ⟨L, hQ, e1, e2, e3⟩, st⟩ := X.privateBack hx (y := y) hown (mvT hZ w1) (mvT hZ w2) hsel hpr (mvT hZ w4) hy (backOf (W := W) hM hZ w4 w3 hf hl) (g := mkF m pc ls (argsL.reverse ++ .ref a :: rest)) rfl hsize (Steps.refl _) (a := a) (by rw [eT]; exact q1) q2 (argsL := argsL) (rest := rest) hlen rfl
    (by show 2 * 0 + _ ≤ _; omega) hd (fun _ _ => ⟨has, eT, hcc, hss⟩)
  dsimp only [Pt.U, Pt.locs, Pt.cells, Pt.slots] at X' e1 e2 e3 st hQ
  subst e1 e2 e3
  exact go (fun t kt => st.trans kt) (k T' L v X' hQ)
end A
section B
variable {args : Array Value} {first s : State} {o : Option Outcome} {idx : List Nat} {a b : Term}
theorem eqR {y : Addr} (h : (Cond.eq a b).value args first o s idx = some true) (hb : b.eval args first o idx s = some (.ref y)) : a.eval args first o idx s = some (.ref y) := by
  obtain ⟨x', y', h1, h2, k1, k2⟩ := cmp_v (Or.inl h)
  cases hb.symm.trans h2
  have hx : x'.isRef = true := k2.2
  rw [h1, gotT (eq_R h1 hb hx rfl) h]
theorem eqI {y : Int32} (h : (Cond.eq a b).value args first o s idx = some true) (hb : b.eval args first o idx s = some (.int y)) : a.eval args first o idx s = some (.int y) := by
  obtain ⟨x', y', h1, h2, k1, k2⟩ := cmp_v (Or.inl h)
  cases hb.symm.trans h2
  obtain ⟨z, rfl⟩ := k2
  rw [h1, gotT (Cond.eq_ints h1 hb) h]
theorem len_at {y : Int32} (h : (Term.length a).eval args first o idx s = some (.int y)) : ∃ (x : Addr) (cell : Cell), a.eval args first o idx s = some (.ref x) ∧ s.arrayAt? x = some cell ∧ cell.slots.size < 2 ^ 31 ∧ cell.slots.size.toInt32 = y := by
  obtain ⟨b, cell, h1, h2, h3, h4⟩ := Jvm.Lib.length_spec h
  exact ⟨b, cell, h1, h2, h3, (Value.int.inj h4).symm⟩
end B
end Own
namespace Jvm.Pilot.@@N@@
open Jvm Jvm.ClassFile Sem Op Lib Jvm.Free Jvm.Stand Jvm.LawKit Jvm.RoadKit Bundle Jvm.Pilot.@@N@@.Jvm.D
def F_a3 (c : Int32) : Int32 := if c < (65536 : Int32) then 0 else if (1114111 : Int32) < c then 0 else 1
def F_a2 (c : Int32) : Int32 := if c < (57344 : Int32) then F_a3 c else if (65533 : Int32) < c then F_a3 c else 1
def F_allowed (c : Int32) : Int32 := if c = (9 : Int32) then 1 else if c = (10 : Int32) then 1 else if c = (13 : Int32) then 1 else if c < (32 : Int32) then F_a2 c else if (55295 : Int32) < c then F_a2 c else 1
def F_r3 (c : Int32) : Int32 := if c = (65534 : Int32) then 0 else if c = (65535 : Int32) then 0 else 1
def F_r2 (c : Int32) : Int32 := if c < (32 : Int32) then (if c = (9 : Int32) then 1 else if c = (10 : Int32) then 1 else if c = (13 : Int32) then 1 else 0) else if c < (55296 : Int32) then F_r3 c else if c < (57344 : Int32) then 0 else F_r3 c
def F_ref (c : Int32) : Int32 := if c < (0 : Int32) then 0 else if (1114111 : Int32) < c then 0 else F_r2 c
set_option maxHeartbeats 8000000 in
theorem ow_eqv (c : Int32) : F_allowed c = F_ref c := by
  have k9 : (9 : Int32).toInt = 9 := by decide
  have k10 : (10 : Int32).toInt = 10 := by decide
  have k13 : (13 : Int32).toInt = 13 := by decide
  have k0 : (0 : Int32).toInt = 0 := by decide
  have k32 : (32 : Int32).toInt = 32 := by decide
  have k1 : (55295 : Int32).toInt = 55295 := by decide
  have k2 : (55296 : Int32).toInt = 55296 := by decide
  have k3 : (57344 : Int32).toInt = 57344 := by decide
  have k4 : (65533 : Int32).toInt = 65533 := by decide
  have k5 : (65534 : Int32).toInt = 65534 := by decide
  have k6 : (65535 : Int32).toInt = 65535 := by decide
  have k7 : (65536 : Int32).toInt = 65536 := by decide
  have k8 : (1114111 : Int32).toInt = 1114111 := by decide
  simp only [F_allowed, F_a2, F_a3, F_ref, F_r2, F_r3, ← Int32.toInt_inj, Int32.lt_iff_toInt_lt, k9, k10, k13, k0, k32, k1, k2, k3, k4, k5, k6, k7, k8]
  generalize c.toInt = z
  repeat' split
  all_goals first | rfl | (exfalso; omega)
theorem own_idx (k : Int32) : ¬ ((k &&& (2147483647 : Int32)) - ((k &&& (2147483647 : Int32)) / (23 : Int32)) * (23 : Int32)) < 0 ∧ ((k &&& (2147483647 : Int32)) - ((k &&& (2147483647 : Int32)) / (23 : Int32)) * (23 : Int32)) < (23 : Int32) := by
  have h0 := c_and k 2147483647 (by decide)
  generalize k &&& (2147483647 : Int32) = a at h0 ⊢
  rw [irem_eq_mod]
  have h1 := (c_irem a 23 23 (by decide)).1 h0.1
  rw [Int32.lt_iff_toInt_lt, Int32.lt_iff_toInt_lt, h1, show (23 : Int32).toInt = 23 by decide, show (0 : Int32).toInt = 0 by decide]
  omega
theorem d1_0 : decode prog_105_method_7_code 0 = .ok (.iload_n 0, 1) := by decide +kernel
theorem d1_1 : decode prog_105_method_7_code 1 = .ok (.bipush 9, 2) := by decide +kernel
theorem d1_3 : decode prog_105_method_7_code 3 = .ok (.if_icmp .eq 51, 3) := by decide +kernel
theorem d1_6 : decode prog_105_method_7_code 6 = .ok (.iload_n 0, 1) := by decide +kernel
theorem d1_7 : decode prog_105_method_7_code 7 = .ok (.bipush 10, 2) := by decide +kernel
theorem d1_9 : decode prog_105_method_7_code 9 = .ok (.if_icmp .eq 45, 3) := by decide +kernel
theorem d1_12 : decode prog_105_method_7_code 12 = .ok (.iload_n 0, 1) := by decide +kernel
theorem d1_13 : decode prog_105_method_7_code 13 = .ok (.bipush 13, 2) := by decide +kernel
theorem d1_15 : decode prog_105_method_7_code 15 = .ok (.if_icmp .eq 39, 3) := by decide +kernel
theorem d1_18 : decode prog_105_method_7_code 18 = .ok (.iload_n 0, 1) := by decide +kernel
theorem d1_19 : decode prog_105_method_7_code 19 = .ok (.bipush 32, 2) := by decide +kernel
theorem d1_21 : decode prog_105_method_7_code 21 = .ok (.if_icmp .lt 9, 3) := by decide +kernel
theorem d1_24 : decode prog_105_method_7_code 24 = .ok (.iload_n 0, 1) := by decide +kernel
theorem d1_25 : decode prog_105_method_7_code 25 = .ok (.ldc 182, 2) := by decide +kernel
theorem d1_27 : decode prog_105_method_7_code 27 = .ok (.if_icmp .le 27, 3) := by decide +kernel
theorem d1_30 : decode prog_105_method_7_code 30 = .ok (.iload_n 0, 1) := by decide +kernel
theorem d1_31 : decode prog_105_method_7_code 31 = .ok (.ldc 183, 2) := by decide +kernel
theorem d1_33 : decode prog_105_method_7_code 33 = .ok (.if_icmp .lt 9, 3) := by decide +kernel
theorem d1_36 : decode prog_105_method_7_code 36 = .ok (.iload_n 0, 1) := by decide +kernel
theorem d1_37 : decode prog_105_method_7_code 37 = .ok (.ldc 184, 2) := by decide +kernel
theorem d1_39 : decode prog_105_method_7_code 39 = .ok (.if_icmp .le 15, 3) := by decide +kernel
theorem d1_42 : decode prog_105_method_7_code 42 = .ok (.iload_n 0, 1) := by decide +kernel
theorem d1_43 : decode prog_105_method_7_code 43 = .ok (.ldc 185, 2) := by decide +kernel
theorem d1_45 : decode prog_105_method_7_code 45 = .ok (.if_icmp .lt 13, 3) := by decide +kernel
theorem d1_48 : decode prog_105_method_7_code 48 = .ok (.iload_n 0, 1) := by decide +kernel
theorem d1_49 : decode prog_105_method_7_code 49 = .ok (.ldc 186, 2) := by decide +kernel
theorem d1_51 : decode prog_105_method_7_code 51 = .ok (.if_icmp .gt 7, 3) := by decide +kernel
theorem d1_54 : decode prog_105_method_7_code 54 = .ok (.iconst 1, 1) := by decide +kernel
theorem d1_55 : decode prog_105_method_7_code 55 = .ok (.goto 4, 3) := by decide +kernel
theorem d1_58 : decode prog_105_method_7_code 58 = .ok (.iconst 0, 1) := by decide +kernel
theorem d1_59 : decode prog_105_method_7_code 59 = .ok (.ireturn, 1) := by decide +kernel
theorem pn_1 : plainName "com/example/loomwright/loomwright/rule/XmlText" = true := by first | (simp [plainName, overriddenIn]; done) | decide +kernel
theorem ef_1 (m : MethodId) (p1 : Int32) : entryFrame m #[(.int p1)] 1 = mkF m 0 #[.val (.int p1)] [] := by first | (simp [entryFrame, mkF, argsToLocals, Value.category]; done) | rfl
def Q1 (Z : State) (p1 : Int32)  (h0 : Heap) (n0 : Nat) : Option Value → Heap → List Loc → Prop := fun v h L => v = some (.int (F_allowed p1)) ∧ Fr n0 L ∧ h = h0
set_option maxRecDepth 65536 in
set_option maxHeartbeats 40000000 in
theorem rm1 (l : Launch) (Z : State) (a0 : Array Value) (hw : ∀ d ∈ tables_1, d.before a0 Z = true) (ws : List Jvm.Cond) (p1 : Int32)  (h0 : Heap) (n0 : Nat) (Z0 : n0 ≤ h0.size)  :
    MetFree l (⟨"com/example/loomwright/loomwright/rule/XmlText", "isAllowed", "(I)Z"⟩ : MethodName) (head1 (Jvm.Cond.code (⟨"com/example/loomwright/loomwright/rule/XmlText", "isAllowed", "(I)Z"⟩ : MethodName) prog_105_method_7_code 1 (some .boolean) :: ws) ({ frames := 0, cells := 0, slots := 0, locals := 0 } : Room)) (fun a U => a = #[(.int p1)] ∧ Z.Warmed39 U.vm ∧ U.heap = h0) (fun _ _ _ _ _ => True) (fun _ U o U' => ∃ v L, o = .returned v ∧ (Q1 Z p1 h0 n0) v U'.heap L ∧ FrameEnd U o U' L ({ frames := 0, cells := 0, slots := 0, locals := 0 } : Room).cells ({ frames := 0, cells := 0, slots := 0, locals := 0 } : Room).slots) := by
  refine MetFree.of_bodySF (plainFor_of_name pn_1) hisR ?_
  intro p e s m args below meth c s₁ Bd hml0 hP hK
  obtain ⟨rfl, hZ, hh⟩ := hP
  have hx := Bd.exec
  have hby := Bd.bytes
  have hml : c.maxLocals = 1 := hml0
  have hown : s.vm.findClass "com/example/loomwright/loomwright/rule/XmlText" = some m.cls := findClass_of_methodNamed Bd.named
  have hnm := (name_of_methodNamed Bd.named Bd.method).1
  have X0 : Stand p l e ({ frames := 0, cells := 0, slots := 0, locals := 0 } : Room) s m #[(.int p1)] below meth c s₁ [] 0 0 := Stand.of_body Bd
  have e0 : s₁.heap = h0 := by rw [← hh, Bd.state]; rfl
  have N0 := Fr.nil n0
  show Own.Fin p e below _ (Own.Post s (Q1 Z p1 h0 n0) ({ frames := 0, cells := 0, slots := 0, locals := 0 } : Room).cells ({ frames := 0, cells := 0, slots := 0, locals := 0 } : Room).slots)
  refine Own.start (ef_1 m p1) ?_
  show Own.Fin p e below (s₁.setTop (mkF m 0 #[.val (.int p1)] [])) _
  refine Own.go (fun t k => XS.iloadN X0.here hx rfl (hb hby d1_0) rfl k) ?_
  show Own.Fin p e below (s₁.setTop (mkF m 1 #[.val (.int p1)] [(.int p1)])) _
  refine Own.go (fun t k => XS.bipush X0.here hx rfl (hb hby d1_1) k) ?_
  show Own.Fin p e below (s₁.setTop (mkF m 3 #[.val (.int p1)] [(.int (9 : Int32)), (.int p1)])) _
  by_cases hc3_0 : p1 = (9 : Int32)
  · skip
    refine Own.go (fun t k => XS.icmpYes X0.here hx rfl (pc0 := 3) (pc' := 54) rfl (hb hby d1_3) rfl (teq hc3_0).1 (by decide) (by decide) k) ?_
    show Own.Fin p e below (s₁.setTop (mkF m 54 #[.val (.int p1)] [])) _
    refine Own.go (fun t k => XS.iconst X0.here hx rfl (hb hby d1_54) k) ?_
    show Own.Fin p e below (s₁.setTop (mkF m 55 #[.val (.int p1)] [(.int (1 : Int32))])) _
    refine Own.go (fun t k => XS.goto X0.here hx rfl (pc0 := 55) (pc' := 59) rfl (hb hby d1_55) (by decide) (by decide) k) ?_
    show Own.Fin p e below (s₁.setTop (mkF m 59 #[.val (.int p1)] [(.int (1 : Int32))])) _
    refine Own.retN X0 hx Bd.notSynchronized (t := .boolean) Bd.returns (by simp) (hb hby d1_59) (by decide) (by decide) ?_
    exact ⟨by rw [show F_allowed p1 = (1 : Int32) by simp [F_allowed, F_a2, F_a3, hc3_0]]; rfl, N0, e0⟩
  · skip
    refine Own.go (fun t k => XS.icmpNo X0.here hx rfl (hb hby d1_3) rfl (feq hc3_0).1 k) ?_
    show Own.Fin p e below (s₁.setTop (mkF m 6 #[.val (.int p1)] [])) _
    refine Own.go (fun t k => XS.iloadN X0.here hx rfl (hb hby d1_6) rfl k) ?_
    show Own.Fin p e below (s₁.setTop (mkF m 7 #[.val (.int p1)] [(.int p1)])) _
    refine Own.go (fun t k => XS.bipush X0.here hx rfl (hb hby d1_7) k) ?_
    show Own.Fin p e below (s₁.setTop (mkF m 9 #[.val (.int p1)] [(.int (10 : Int32)), (.int p1)])) _
    by_cases hc9_1 : p1 = (10 : Int32)
    · skip
      refine Own.go (fun t k => XS.icmpYes X0.here hx rfl (pc0 := 9) (pc' := 54) rfl (hb hby d1_9) rfl (teq hc9_1).1 (by decide) (by decide) k) ?_
      show Own.Fin p e below (s₁.setTop (mkF m 54 #[.val (.int p1)] [])) _
      refine Own.go (fun t k => XS.iconst X0.here hx rfl (hb hby d1_54) k) ?_
      show Own.Fin p e below (s₁.setTop (mkF m 55 #[.val (.int p1)] [(.int (1 : Int32))])) _
      refine Own.go (fun t k => XS.goto X0.here hx rfl (pc0 := 55) (pc' := 59) rfl (hb hby d1_55) (by decide) (by decide) k) ?_
      show Own.Fin p e below (s₁.setTop (mkF m 59 #[.val (.int p1)] [(.int (1 : Int32))])) _
      refine Own.retN X0 hx Bd.notSynchronized (t := .boolean) Bd.returns (by simp) (hb hby d1_59) (by decide) (by decide) ?_
      exact ⟨by rw [show F_allowed p1 = (1 : Int32) by simp [F_allowed, F_a2, F_a3, hc3_0, hc9_1]]; rfl, N0, e0⟩
    · skip
      refine Own.go (fun t k => XS.icmpNo X0.here hx rfl (hb hby d1_9) rfl (feq hc9_1).1 k) ?_
      show Own.Fin p e below (s₁.setTop (mkF m 12 #[.val (.int p1)] [])) _
      refine Own.go (fun t k => XS.iloadN X0.here hx rfl (hb hby d1_12) rfl k) ?_
      show Own.Fin p e below (s₁.setTop (mkF m 13 #[.val (.int p1)] [(.int p1)])) _
      refine Own.go (fun t k => XS.bipush X0.here hx rfl (hb hby d1_13) k) ?_
      show Own.Fin p e below (s₁.setTop (mkF m 15 #[.val (.int p1)] [(.int (13 : Int32)), (.int p1)])) _
      by_cases hc15_2 : p1 = (13 : Int32)
      · skip
        refine Own.go (fun t k => XS.icmpYes X0.here hx rfl (pc0 := 15) (pc' := 54) rfl (hb hby d1_15) rfl (teq hc15_2).1 (by decide) (by decide) k) ?_
        show Own.Fin p e below (s₁.setTop (mkF m 54 #[.val (.int p1)] [])) _
        refine Own.go (fun t k => XS.iconst X0.here hx rfl (hb hby d1_54) k) ?_
        show Own.Fin p e below (s₁.setTop (mkF m 55 #[.val (.int p1)] [(.int (1 : Int32))])) _
        refine Own.go (fun t k => XS.goto X0.here hx rfl (pc0 := 55) (pc' := 59) rfl (hb hby d1_55) (by decide) (by decide) k) ?_
        show Own.Fin p e below (s₁.setTop (mkF m 59 #[.val (.int p1)] [(.int (1 : Int32))])) _
        refine Own.retN X0 hx Bd.notSynchronized (t := .boolean) Bd.returns (by simp) (hb hby d1_59) (by decide) (by decide) ?_
        exact ⟨by rw [show F_allowed p1 = (1 : Int32) by simp [F_allowed, F_a2, F_a3, hc3_0, hc9_1, hc15_2]]; rfl, N0, e0⟩
      · skip
        refine Own.go (fun t k => XS.icmpNo X0.here hx rfl (hb hby d1_15) rfl (feq hc15_2).1 k) ?_
        show Own.Fin p e below (s₁.setTop (mkF m 18 #[.val (.int p1)] [])) _
        refine Own.go (fun t k => XS.iloadN X0.here hx rfl (hb hby d1_18) rfl k) ?_
        show Own.Fin p e below (s₁.setTop (mkF m 19 #[.val (.int p1)] [(.int p1)])) _
        refine Own.go (fun t k => XS.bipush X0.here hx rfl (hb hby d1_19) k) ?_
        show Own.Fin p e below (s₁.setTop (mkF m 21 #[.val (.int p1)] [(.int (32 : Int32)), (.int p1)])) _
        by_cases hc21_3 : p1 < (32 : Int32)
        · skip
          refine Own.go (fun t k => XS.icmpYes X0.here hx rfl (pc0 := 21) (pc' := 30) rfl (hb hby d1_21) rfl (tlt hc21_3).1 (by decide) (by decide) k) ?_
          show Own.Fin p e below (s₁.setTop (mkF m 30 #[.val (.int p1)] [])) _
          refine Own.go (fun t k => XS.iloadN X0.here hx rfl (hb hby d1_30) rfl k) ?_
          show Own.Fin p e below (s₁.setTop (mkF m 31 #[.val (.int p1)] [(.int p1)])) _
          refine Own.go (fun t k => X0.ldcInt hx hown (mvT hZ (hw _ (List.mem_of_getElem? (i := 17) rfl))) (g := (mkF m 31 #[.val (.int p1)] [(.int p1)])) rfl (hb hby d1_31) _ k) ?_
          show Own.Fin p e below (s₁.setTop (mkF m 33 #[.val (.int p1)] [(.int (57344 : Int32)), (.int p1)])) _
          by_cases hc33_4 : p1 < (57344 : Int32)
          · skip
            refine Own.go (fun t k => XS.icmpYes X0.here hx rfl (pc0 := 33) (pc' := 42) rfl (hb hby d1_33) rfl (tlt hc33_4).1 (by decide) (by decide) k) ?_
            show Own.Fin p e below (s₁.setTop (mkF m 42 #[.val (.int p1)] [])) _
            refine Own.go (fun t k => XS.iloadN X0.here hx rfl (hb hby d1_42) rfl k) ?_
            show Own.Fin p e below (s₁.setTop (mkF m 43 #[.val (.int p1)] [(.int p1)])) _
            refine Own.go (fun t k => X0.ldcInt hx hown (mvT hZ (hw _ (List.mem_of_getElem? (i := 18) rfl))) (g := (mkF m 43 #[.val (.int p1)] [(.int p1)])) rfl (hb hby d1_43) _ k) ?_
            show Own.Fin p e below (s₁.setTop (mkF m 45 #[.val (.int p1)] [(.int (65536 : Int32)), (.int p1)])) _
            by_cases hc45_5 : p1 < (65536 : Int32)
            · skip
              refine Own.go (fun t k => XS.icmpYes X0.here hx rfl (pc0 := 45) (pc' := 58) rfl (hb hby d1_45) rfl (tlt hc45_5).1 (by decide) (by decide) k) ?_
              show Own.Fin p e below (s₁.setTop (mkF m 58 #[.val (.int p1)] [])) _
              refine Own.go (fun t k => XS.iconst X0.here hx rfl (hb hby d1_58) k) ?_
              show Own.Fin p e below (s₁.setTop (mkF m 59 #[.val (.int p1)] [(.int (0 : Int32))])) _
              refine Own.retN X0 hx Bd.notSynchronized (t := .boolean) Bd.returns (by simp) (hb hby d1_59) (by decide) (by decide) ?_
              exact ⟨by rw [show F_allowed p1 = (0 : Int32) by simp [F_allowed, F_a2, F_a3, hc3_0, hc9_1, hc15_2, hc21_3, hc33_4, hc45_5]]; rfl, N0, e0⟩
            · skip
              refine Own.go (fun t k => XS.icmpNo X0.here hx rfl (hb hby d1_45) rfl (flt hc45_5).1 k) ?_
              show Own.Fin p e below (s₁.setTop (mkF m 48 #[.val (.int p1)] [])) _
              refine Own.go (fun t k => XS.iloadN X0.here hx rfl (hb hby d1_48) rfl k) ?_
              show Own.Fin p e below (s₁.setTop (mkF m 49 #[.val (.int p1)] [(.int p1)])) _
              refine Own.go (fun t k => X0.ldcInt hx hown (mvT hZ (hw _ (List.mem_of_getElem? (i := 25) rfl))) (g := (mkF m 49 #[.val (.int p1)] [(.int p1)])) rfl (hb hby d1_49) _ k) ?_
              show Own.Fin p e below (s₁.setTop (mkF m 51 #[.val (.int p1)] [(.int (1114111 : Int32)), (.int p1)])) _
              by_cases hc51_6 : (1114111 : Int32) < p1
              · skip
                refine Own.go (fun t k => XS.icmpYes X0.here hx rfl (pc0 := 51) (pc' := 58) rfl (hb hby d1_51) rfl (tlt hc51_6).2.2.1 (by decide) (by decide) k) ?_
                show Own.Fin p e below (s₁.setTop (mkF m 58 #[.val (.int p1)] [])) _
                refine Own.go (fun t k => XS.iconst X0.here hx rfl (hb hby d1_58) k) ?_
                show Own.Fin p e below (s₁.setTop (mkF m 59 #[.val (.int p1)] [(.int (0 : Int32))])) _
                refine Own.retN X0 hx Bd.notSynchronized (t := .boolean) Bd.returns (by simp) (hb hby d1_59) (by decide) (by decide) ?_
                exact ⟨by rw [show F_allowed p1 = (0 : Int32) by simp [F_allowed, F_a2, F_a3, hc3_0, hc9_1, hc15_2, hc21_3, hc33_4, hc45_5, hc51_6]]; rfl, N0, e0⟩
              · skip
                refine Own.go (fun t k => XS.icmpNo X0.here hx rfl (hb hby d1_51) rfl (flt hc51_6).2.2.1 k) ?_
                show Own.Fin p e below (s₁.setTop (mkF m 54 #[.val (.int p1)] [])) _
                refine Own.go (fun t k => XS.iconst X0.here hx rfl (hb hby d1_54) k) ?_
                show Own.Fin p e below (s₁.setTop (mkF m 55 #[.val (.int p1)] [(.int (1 : Int32))])) _
                refine Own.go (fun t k => XS.goto X0.here hx rfl (pc0 := 55) (pc' := 59) rfl (hb hby d1_55) (by decide) (by decide) k) ?_
                show Own.Fin p e below (s₁.setTop (mkF m 59 #[.val (.int p1)] [(.int (1 : Int32))])) _
                refine Own.retN X0 hx Bd.notSynchronized (t := .boolean) Bd.returns (by simp) (hb hby d1_59) (by decide) (by decide) ?_
                exact ⟨by rw [show F_allowed p1 = (1 : Int32) by simp [F_allowed, F_a2, F_a3, hc3_0, hc9_1, hc15_2, hc21_3, hc33_4, hc45_5, hc51_6]]; rfl, N0, e0⟩
          · skip
            refine Own.go (fun t k => XS.icmpNo X0.here hx rfl (hb hby d1_33) rfl (flt hc33_4).1 k) ?_
            show Own.Fin p e below (s₁.setTop (mkF m 36 #[.val (.int p1)] [])) _
            refine Own.go (fun t k => XS.iloadN X0.here hx rfl (hb hby d1_36) rfl k) ?_
            show Own.Fin p e below (s₁.setTop (mkF m 37 #[.val (.int p1)] [(.int p1)])) _
            refine Own.go (fun t k => X0.ldcInt hx hown (mvT hZ (hw _ (List.mem_of_getElem? (i := 24) rfl))) (g := (mkF m 37 #[.val (.int p1)] [(.int p1)])) rfl (hb hby d1_37) _ k) ?_
            show Own.Fin p e below (s₁.setTop (mkF m 39 #[.val (.int p1)] [(.int (65533 : Int32)), (.int p1)])) _
            by_cases hc39_7 : (65533 : Int32) < p1
            · skip
              refine Own.go (fun t k => XS.icmpNo X0.here hx rfl (hb hby d1_39) rfl (tlt hc39_7).2.2.2 k) ?_
              show Own.Fin p e below (s₁.setTop (mkF m 42 #[.val (.int p1)] [])) _
              refine Own.go (fun t k => XS.iloadN X0.here hx rfl (hb hby d1_42) rfl k) ?_
              show Own.Fin p e below (s₁.setTop (mkF m 43 #[.val (.int p1)] [(.int p1)])) _
              refine Own.go (fun t k => X0.ldcInt hx hown (mvT hZ (hw _ (List.mem_of_getElem? (i := 18) rfl))) (g := (mkF m 43 #[.val (.int p1)] [(.int p1)])) rfl (hb hby d1_43) _ k) ?_
              show Own.Fin p e below (s₁.setTop (mkF m 45 #[.val (.int p1)] [(.int (65536 : Int32)), (.int p1)])) _
              by_cases hc45_8 : p1 < (65536 : Int32)
              · skip
                refine Own.go (fun t k => XS.icmpYes X0.here hx rfl (pc0 := 45) (pc' := 58) rfl (hb hby d1_45) rfl (tlt hc45_8).1 (by decide) (by decide) k) ?_
                show Own.Fin p e below (s₁.setTop (mkF m 58 #[.val (.int p1)] [])) _
                refine Own.go (fun t k => XS.iconst X0.here hx rfl (hb hby d1_58) k) ?_
                show Own.Fin p e below (s₁.setTop (mkF m 59 #[.val (.int p1)] [(.int (0 : Int32))])) _
                refine Own.retN X0 hx Bd.notSynchronized (t := .boolean) Bd.returns (by simp) (hb hby d1_59) (by decide) (by decide) ?_
                exact ⟨by rw [show F_allowed p1 = (0 : Int32) by simp [F_allowed, F_a2, F_a3, hc3_0, hc9_1, hc15_2, hc21_3, hc33_4, hc39_7, hc45_8]]; rfl, N0, e0⟩
              · skip
                refine Own.go (fun t k => XS.icmpNo X0.here hx rfl (hb hby d1_45) rfl (flt hc45_8).1 k) ?_
                show Own.Fin p e below (s₁.setTop (mkF m 48 #[.val (.int p1)] [])) _
                refine Own.go (fun t k => XS.iloadN X0.here hx rfl (hb hby d1_48) rfl k) ?_
                show Own.Fin p e below (s₁.setTop (mkF m 49 #[.val (.int p1)] [(.int p1)])) _
                refine Own.go (fun t k => X0.ldcInt hx hown (mvT hZ (hw _ (List.mem_of_getElem? (i := 25) rfl))) (g := (mkF m 49 #[.val (.int p1)] [(.int p1)])) rfl (hb hby d1_49) _ k) ?_
                show Own.Fin p e below (s₁.setTop (mkF m 51 #[.val (.int p1)] [(.int (1114111 : Int32)), (.int p1)])) _
                by_cases hc51_9 : (1114111 : Int32) < p1
                · skip
                  refine Own.go (fun t k => XS.icmpYes X0.here hx rfl (pc0 := 51) (pc' := 58) rfl (hb hby d1_51) rfl (tlt hc51_9).2.2.1 (by decide) (by decide) k) ?_
                  show Own.Fin p e below (s₁.setTop (mkF m 58 #[.val (.int p1)] [])) _
                  refine Own.go (fun t k => XS.iconst X0.here hx rfl (hb hby d1_58) k) ?_
                  show Own.Fin p e below (s₁.setTop (mkF m 59 #[.val (.int p1)] [(.int (0 : Int32))])) _
                  refine Own.retN X0 hx Bd.notSynchronized (t := .boolean) Bd.returns (by simp) (hb hby d1_59) (by decide) (by decide) ?_
                  exact ⟨by rw [show F_allowed p1 = (0 : Int32) by simp [F_allowed, F_a2, F_a3, hc3_0, hc9_1, hc15_2, hc21_3, hc33_4, hc39_7, hc45_8, hc51_9]]; rfl, N0, e0⟩
                · skip
                  refine Own.go (fun t k => XS.icmpNo X0.here hx rfl (hb hby d1_51) rfl (flt hc51_9).2.2.1 k) ?_
                  show Own.Fin p e below (s₁.setTop (mkF m 54 #[.val (.int p1)] [])) _
                  refine Own.go (fun t k => XS.iconst X0.here hx rfl (hb hby d1_54) k) ?_
                  show Own.Fin p e below (s₁.setTop (mkF m 55 #[.val (.int p1)] [(.int (1 : Int32))])) _
                  refine Own.go (fun t k => XS.goto X0.here hx rfl (pc0 := 55) (pc' := 59) rfl (hb hby d1_55) (by decide) (by decide) k) ?_
                  show Own.Fin p e below (s₁.setTop (mkF m 59 #[.val (.int p1)] [(.int (1 : Int32))])) _
                  refine Own.retN X0 hx Bd.notSynchronized (t := .boolean) Bd.returns (by simp) (hb hby d1_59) (by decide) (by decide) ?_
                  exact ⟨by rw [show F_allowed p1 = (1 : Int32) by simp [F_allowed, F_a2, F_a3, hc3_0, hc9_1, hc15_2, hc21_3, hc33_4, hc39_7, hc45_8, hc51_9]]; rfl, N0, e0⟩
            · skip
              refine Own.go (fun t k => XS.icmpYes X0.here hx rfl (pc0 := 39) (pc' := 54) rfl (hb hby d1_39) rfl (flt hc39_7).2.2.2 (by decide) (by decide) k) ?_
              show Own.Fin p e below (s₁.setTop (mkF m 54 #[.val (.int p1)] [])) _
              refine Own.go (fun t k => XS.iconst X0.here hx rfl (hb hby d1_54) k) ?_
              show Own.Fin p e below (s₁.setTop (mkF m 55 #[.val (.int p1)] [(.int (1 : Int32))])) _
              refine Own.go (fun t k => XS.goto X0.here hx rfl (pc0 := 55) (pc' := 59) rfl (hb hby d1_55) (by decide) (by decide) k) ?_
              show Own.Fin p e below (s₁.setTop (mkF m 59 #[.val (.int p1)] [(.int (1 : Int32))])) _
              refine Own.retN X0 hx Bd.notSynchronized (t := .boolean) Bd.returns (by simp) (hb hby d1_59) (by decide) (by decide) ?_
              exact ⟨by rw [show F_allowed p1 = (1 : Int32) by simp [F_allowed, F_a2, F_a3, hc3_0, hc9_1, hc15_2, hc21_3, hc33_4, hc39_7]]; rfl, N0, e0⟩
        · skip
          refine Own.go (fun t k => XS.icmpNo X0.here hx rfl (hb hby d1_21) rfl (flt hc21_3).1 k) ?_
          show Own.Fin p e below (s₁.setTop (mkF m 24 #[.val (.int p1)] [])) _
          refine Own.go (fun t k => XS.iloadN X0.here hx rfl (hb hby d1_24) rfl k) ?_
          show Own.Fin p e below (s₁.setTop (mkF m 25 #[.val (.int p1)] [(.int p1)])) _
          refine Own.go (fun t k => X0.ldcInt hx hown (mvT hZ (hw _ (List.mem_of_getElem? (i := 23) rfl))) (g := (mkF m 25 #[.val (.int p1)] [(.int p1)])) rfl (hb hby d1_25) _ k) ?_
          show Own.Fin p e below (s₁.setTop (mkF m 27 #[.val (.int p1)] [(.int (55295 : Int32)), (.int p1)])) _
          by_cases hc27_10 : (55295 : Int32) < p1
          · skip
            refine Own.go (fun t k => XS.icmpNo X0.here hx rfl (hb hby d1_27) rfl (tlt hc27_10).2.2.2 k) ?_
            show Own.Fin p e below (s₁.setTop (mkF m 30 #[.val (.int p1)] [])) _
            refine Own.go (fun t k => XS.iloadN X0.here hx rfl (hb hby d1_30) rfl k) ?_
            show Own.Fin p e below (s₁.setTop (mkF m 31 #[.val (.int p1)] [(.int p1)])) _
            refine Own.go (fun t k => X0.ldcInt hx hown (mvT hZ (hw _ (List.mem_of_getElem? (i := 17) rfl))) (g := (mkF m 31 #[.val (.int p1)] [(.int p1)])) rfl (hb hby d1_31) _ k) ?_
            show Own.Fin p e below (s₁.setTop (mkF m 33 #[.val (.int p1)] [(.int (57344 : Int32)), (.int p1)])) _
            by_cases hc33_11 : p1 < (57344 : Int32)
            · skip
              refine Own.go (fun t k => XS.icmpYes X0.here hx rfl (pc0 := 33) (pc' := 42) rfl (hb hby d1_33) rfl (tlt hc33_11).1 (by decide) (by decide) k) ?_
              show Own.Fin p e below (s₁.setTop (mkF m 42 #[.val (.int p1)] [])) _
              refine Own.go (fun t k => XS.iloadN X0.here hx rfl (hb hby d1_42) rfl k) ?_
              show Own.Fin p e below (s₁.setTop (mkF m 43 #[.val (.int p1)] [(.int p1)])) _
              refine Own.go (fun t k => X0.ldcInt hx hown (mvT hZ (hw _ (List.mem_of_getElem? (i := 18) rfl))) (g := (mkF m 43 #[.val (.int p1)] [(.int p1)])) rfl (hb hby d1_43) _ k) ?_
              show Own.Fin p e below (s₁.setTop (mkF m 45 #[.val (.int p1)] [(.int (65536 : Int32)), (.int p1)])) _
              by_cases hc45_12 : p1 < (65536 : Int32)
              · skip
                refine Own.go (fun t k => XS.icmpYes X0.here hx rfl (pc0 := 45) (pc' := 58) rfl (hb hby d1_45) rfl (tlt hc45_12).1 (by decide) (by decide) k) ?_
                show Own.Fin p e below (s₁.setTop (mkF m 58 #[.val (.int p1)] [])) _
                refine Own.go (fun t k => XS.iconst X0.here hx rfl (hb hby d1_58) k) ?_
                show Own.Fin p e below (s₁.setTop (mkF m 59 #[.val (.int p1)] [(.int (0 : Int32))])) _
                refine Own.retN X0 hx Bd.notSynchronized (t := .boolean) Bd.returns (by simp) (hb hby d1_59) (by decide) (by decide) ?_
                exact ⟨by rw [show F_allowed p1 = (0 : Int32) by simp [F_allowed, F_a2, F_a3, hc3_0, hc9_1, hc15_2, hc21_3, hc27_10, hc33_11, hc45_12]]; rfl, N0, e0⟩
              · skip
                refine Own.go (fun t k => XS.icmpNo X0.here hx rfl (hb hby d1_45) rfl (flt hc45_12).1 k) ?_
                show Own.Fin p e below (s₁.setTop (mkF m 48 #[.val (.int p1)] [])) _
                refine Own.go (fun t k => XS.iloadN X0.here hx rfl (hb hby d1_48) rfl k) ?_
                show Own.Fin p e below (s₁.setTop (mkF m 49 #[.val (.int p1)] [(.int p1)])) _
                refine Own.go (fun t k => X0.ldcInt hx hown (mvT hZ (hw _ (List.mem_of_getElem? (i := 25) rfl))) (g := (mkF m 49 #[.val (.int p1)] [(.int p1)])) rfl (hb hby d1_49) _ k) ?_
                show Own.Fin p e below (s₁.setTop (mkF m 51 #[.val (.int p1)] [(.int (1114111 : Int32)), (.int p1)])) _
                by_cases hc51_13 : (1114111 : Int32) < p1
                · skip
                  refine Own.go (fun t k => XS.icmpYes X0.here hx rfl (pc0 := 51) (pc' := 58) rfl (hb hby d1_51) rfl (tlt hc51_13).2.2.1 (by decide) (by decide) k) ?_
                  show Own.Fin p e below (s₁.setTop (mkF m 58 #[.val (.int p1)] [])) _
                  refine Own.go (fun t k => XS.iconst X0.here hx rfl (hb hby d1_58) k) ?_
                  show Own.Fin p e below (s₁.setTop (mkF m 59 #[.val (.int p1)] [(.int (0 : Int32))])) _
                  refine Own.retN X0 hx Bd.notSynchronized (t := .boolean) Bd.returns (by simp) (hb hby d1_59) (by decide) (by decide) ?_
                  exact ⟨by rw [show F_allowed p1 = (0 : Int32) by simp [F_allowed, F_a2, F_a3, hc3_0, hc9_1, hc15_2, hc21_3, hc27_10, hc33_11, hc45_12, hc51_13]]; rfl, N0, e0⟩
                · skip
                  refine Own.go (fun t k => XS.icmpNo X0.here hx rfl (hb hby d1_51) rfl (flt hc51_13).2.2.1 k) ?_
                  show Own.Fin p e below (s₁.setTop (mkF m 54 #[.val (.int p1)] [])) _
                  refine Own.go (fun t k => XS.iconst X0.here hx rfl (hb hby d1_54) k) ?_
                  show Own.Fin p e below (s₁.setTop (mkF m 55 #[.val (.int p1)] [(.int (1 : Int32))])) _
                  refine Own.go (fun t k => XS.goto X0.here hx rfl (pc0 := 55) (pc' := 59) rfl (hb hby d1_55) (by decide) (by decide) k) ?_
                  show Own.Fin p e below (s₁.setTop (mkF m 59 #[.val (.int p1)] [(.int (1 : Int32))])) _
                  refine Own.retN X0 hx Bd.notSynchronized (t := .boolean) Bd.returns (by simp) (hb hby d1_59) (by decide) (by decide) ?_
                  exact ⟨by rw [show F_allowed p1 = (1 : Int32) by simp [F_allowed, F_a2, F_a3, hc3_0, hc9_1, hc15_2, hc21_3, hc27_10, hc33_11, hc45_12, hc51_13]]; rfl, N0, e0⟩
            · skip
              refine Own.go (fun t k => XS.icmpNo X0.here hx rfl (hb hby d1_33) rfl (flt hc33_11).1 k) ?_
              show Own.Fin p e below (s₁.setTop (mkF m 36 #[.val (.int p1)] [])) _
              refine Own.go (fun t k => XS.iloadN X0.here hx rfl (hb hby d1_36) rfl k) ?_
              show Own.Fin p e below (s₁.setTop (mkF m 37 #[.val (.int p1)] [(.int p1)])) _
              refine Own.go (fun t k => X0.ldcInt hx hown (mvT hZ (hw _ (List.mem_of_getElem? (i := 24) rfl))) (g := (mkF m 37 #[.val (.int p1)] [(.int p1)])) rfl (hb hby d1_37) _ k) ?_
              show Own.Fin p e below (s₁.setTop (mkF m 39 #[.val (.int p1)] [(.int (65533 : Int32)), (.int p1)])) _
              by_cases hc39_14 : (65533 : Int32) < p1
              · skip
                refine Own.go (fun t k => XS.icmpNo X0.here hx rfl (hb hby d1_39) rfl (tlt hc39_14).2.2.2 k) ?_
                show Own.Fin p e below (s₁.setTop (mkF m 42 #[.val (.int p1)] [])) _
                refine Own.go (fun t k => XS.iloadN X0.here hx rfl (hb hby d1_42) rfl k) ?_
                show Own.Fin p e below (s₁.setTop (mkF m 43 #[.val (.int p1)] [(.int p1)])) _
                refine Own.go (fun t k => X0.ldcInt hx hown (mvT hZ (hw _ (List.mem_of_getElem? (i := 18) rfl))) (g := (mkF m 43 #[.val (.int p1)] [(.int p1)])) rfl (hb hby d1_43) _ k) ?_
                show Own.Fin p e below (s₁.setTop (mkF m 45 #[.val (.int p1)] [(.int (65536 : Int32)), (.int p1)])) _
                by_cases hc45_15 : p1 < (65536 : Int32)
                · skip
                  refine Own.go (fun t k => XS.icmpYes X0.here hx rfl (pc0 := 45) (pc' := 58) rfl (hb hby d1_45) rfl (tlt hc45_15).1 (by decide) (by decide) k) ?_
                  show Own.Fin p e below (s₁.setTop (mkF m 58 #[.val (.int p1)] [])) _
                  refine Own.go (fun t k => XS.iconst X0.here hx rfl (hb hby d1_58) k) ?_
                  show Own.Fin p e below (s₁.setTop (mkF m 59 #[.val (.int p1)] [(.int (0 : Int32))])) _
                  refine Own.retN X0 hx Bd.notSynchronized (t := .boolean) Bd.returns (by simp) (hb hby d1_59) (by decide) (by decide) ?_
                  exact ⟨by rw [show F_allowed p1 = (0 : Int32) by simp [F_allowed, F_a2, F_a3, hc3_0, hc9_1, hc15_2, hc21_3, hc27_10, hc33_11, hc39_14, hc45_15]]; rfl, N0, e0⟩
                · skip
                  refine Own.go (fun t k => XS.icmpNo X0.here hx rfl (hb hby d1_45) rfl (flt hc45_15).1 k) ?_
                  show Own.Fin p e below (s₁.setTop (mkF m 48 #[.val (.int p1)] [])) _
                  refine Own.go (fun t k => XS.iloadN X0.here hx rfl (hb hby d1_48) rfl k) ?_
                  show Own.Fin p e below (s₁.setTop (mkF m 49 #[.val (.int p1)] [(.int p1)])) _
                  refine Own.go (fun t k => X0.ldcInt hx hown (mvT hZ (hw _ (List.mem_of_getElem? (i := 25) rfl))) (g := (mkF m 49 #[.val (.int p1)] [(.int p1)])) rfl (hb hby d1_49) _ k) ?_
                  show Own.Fin p e below (s₁.setTop (mkF m 51 #[.val (.int p1)] [(.int (1114111 : Int32)), (.int p1)])) _
                  by_cases hc51_16 : (1114111 : Int32) < p1
                  · skip
                    refine Own.go (fun t k => XS.icmpYes X0.here hx rfl (pc0 := 51) (pc' := 58) rfl (hb hby d1_51) rfl (tlt hc51_16).2.2.1 (by decide) (by decide) k) ?_
                    show Own.Fin p e below (s₁.setTop (mkF m 58 #[.val (.int p1)] [])) _
                    refine Own.go (fun t k => XS.iconst X0.here hx rfl (hb hby d1_58) k) ?_
                    show Own.Fin p e below (s₁.setTop (mkF m 59 #[.val (.int p1)] [(.int (0 : Int32))])) _
                    refine Own.retN X0 hx Bd.notSynchronized (t := .boolean) Bd.returns (by simp) (hb hby d1_59) (by decide) (by decide) ?_
                    exact ⟨by rw [show F_allowed p1 = (0 : Int32) by simp [F_allowed, F_a2, F_a3, hc3_0, hc9_1, hc15_2, hc21_3, hc27_10, hc33_11, hc39_14, hc45_15, hc51_16]]; rfl, N0, e0⟩
                  · skip
                    refine Own.go (fun t k => XS.icmpNo X0.here hx rfl (hb hby d1_51) rfl (flt hc51_16).2.2.1 k) ?_
                    show Own.Fin p e below (s₁.setTop (mkF m 54 #[.val (.int p1)] [])) _
                    refine Own.go (fun t k => XS.iconst X0.here hx rfl (hb hby d1_54) k) ?_
                    show Own.Fin p e below (s₁.setTop (mkF m 55 #[.val (.int p1)] [(.int (1 : Int32))])) _
                    refine Own.go (fun t k => XS.goto X0.here hx rfl (pc0 := 55) (pc' := 59) rfl (hb hby d1_55) (by decide) (by decide) k) ?_
                    show Own.Fin p e below (s₁.setTop (mkF m 59 #[.val (.int p1)] [(.int (1 : Int32))])) _
                    refine Own.retN X0 hx Bd.notSynchronized (t := .boolean) Bd.returns (by simp) (hb hby d1_59) (by decide) (by decide) ?_
                    exact ⟨by rw [show F_allowed p1 = (1 : Int32) by simp [F_allowed, F_a2, F_a3, hc3_0, hc9_1, hc15_2, hc21_3, hc27_10, hc33_11, hc39_14, hc45_15, hc51_16]]; rfl, N0, e0⟩
              · skip
                refine Own.go (fun t k => XS.icmpYes X0.here hx rfl (pc0 := 39) (pc' := 54) rfl (hb hby d1_39) rfl (flt hc39_14).2.2.2 (by decide) (by decide) k) ?_
                show Own.Fin p e below (s₁.setTop (mkF m 54 #[.val (.int p1)] [])) _
                refine Own.go (fun t k => XS.iconst X0.here hx rfl (hb hby d1_54) k) ?_
                show Own.Fin p e below (s₁.setTop (mkF m 55 #[.val (.int p1)] [(.int (1 : Int32))])) _
                refine Own.go (fun t k => XS.goto X0.here hx rfl (pc0 := 55) (pc' := 59) rfl (hb hby d1_55) (by decide) (by decide) k) ?_
                show Own.Fin p e below (s₁.setTop (mkF m 59 #[.val (.int p1)] [(.int (1 : Int32))])) _
                refine Own.retN X0 hx Bd.notSynchronized (t := .boolean) Bd.returns (by simp) (hb hby d1_59) (by decide) (by decide) ?_
                exact ⟨by rw [show F_allowed p1 = (1 : Int32) by simp [F_allowed, F_a2, F_a3, hc3_0, hc9_1, hc15_2, hc21_3, hc27_10, hc33_11, hc39_14]]; rfl, N0, e0⟩
          · skip
            refine Own.go (fun t k => XS.icmpYes X0.here hx rfl (pc0 := 27) (pc' := 54) rfl (hb hby d1_27) rfl (flt hc27_10).2.2.2 (by decide) (by decide) k) ?_
            show Own.Fin p e below (s₁.setTop (mkF m 54 #[.val (.int p1)] [])) _
            refine Own.go (fun t k => XS.iconst X0.here hx rfl (hb hby d1_54) k) ?_
            show Own.Fin p e below (s₁.setTop (mkF m 55 #[.val (.int p1)] [(.int (1 : Int32))])) _
            refine Own.go (fun t k => XS.goto X0.here hx rfl (pc0 := 55) (pc' := 59) rfl (hb hby d1_55) (by decide) (by decide) k) ?_
            show Own.Fin p e below (s₁.setTop (mkF m 59 #[.val (.int p1)] [(.int (1 : Int32))])) _
            refine Own.retN X0 hx Bd.notSynchronized (t := .boolean) Bd.returns (by simp) (hb hby d1_59) (by decide) (by decide) ?_
            exact ⟨by rw [show F_allowed p1 = (1 : Int32) by simp [F_allowed, F_a2, F_a3, hc3_0, hc9_1, hc15_2, hc21_3, hc27_10]]; rfl, N0, e0⟩
theorem d2_0 : decode method_2_code 0 = .ok (.iload_n 0, 1) := by decide +kernel
theorem d2_1 : decode method_2_code 1 = .ok (.ifCond .lt 9, 3) := by decide +kernel
theorem d2_4 : decode method_2_code 4 = .ok (.iload_n 0, 1) := by decide +kernel
theorem d2_5 : decode method_2_code 5 = .ok (.ldc 7, 2) := by decide +kernel
theorem d2_7 : decode method_2_code 7 = .ok (.if_icmp .le 5, 3) := by decide +kernel
theorem d2_10 : decode method_2_code 10 = .ok (.iconst 0, 1) := by decide +kernel
theorem d2_11 : decode method_2_code 11 = .ok (.ireturn, 1) := by decide +kernel
theorem d2_12 : decode method_2_code 12 = .ok (.iload_n 0, 1) := by decide +kernel
theorem d2_13 : decode method_2_code 13 = .ok (.bipush 32, 2) := by decide +kernel
theorem d2_15 : decode method_2_code 15 = .ok (.if_icmp .ge 27, 3) := by decide +kernel
theorem d2_18 : decode method_2_code 18 = .ok (.iload_n 0, 1) := by decide +kernel
theorem d2_19 : decode method_2_code 19 = .ok (.bipush 9, 2) := by decide +kernel
theorem d2_21 : decode method_2_code 21 = .ok (.if_icmp .eq 15, 3) := by decide +kernel
theorem d2_24 : decode method_2_code 24 = .ok (.iload_n 0, 1) := by decide +kernel
theorem d2_25 : decode method_2_code 25 = .ok (.bipush 10, 2) := by decide +kernel
theorem d2_27 : decode method_2_code 27 = .ok (.if_icmp .eq 9, 3) := by decide +kernel
theorem d2_30 : decode method_2_code 30 = .ok (.iload_n 0, 1) := by decide +kernel
theorem d2_31 : decode method_2_code 31 = .ok (.bipush 13, 2) := by decide +kernel
theorem d2_33 : decode method_2_code 33 = .ok (.if_icmp .ne 7, 3) := by decide +kernel
theorem d2_36 : decode method_2_code 36 = .ok (.iconst 1, 1) := by decide +kernel
theorem d2_37 : decode method_2_code 37 = .ok (.goto 4, 3) := by decide +kernel
theorem d2_40 : decode method_2_code 40 = .ok (.iconst 0, 1) := by decide +kernel
theorem d2_41 : decode method_2_code 41 = .ok (.ireturn, 1) := by decide +kernel
theorem d2_42 : decode method_2_code 42 = .ok (.iload_n 0, 1) := by decide +kernel
theorem d2_43 : decode method_2_code 43 = .ok (.ldc 8, 2) := by decide +kernel
theorem d2_45 : decode method_2_code 45 = .ok (.if_icmp .lt 11, 3) := by decide +kernel
theorem d2_48 : decode method_2_code 48 = .ok (.iload_n 0, 1) := by decide +kernel
theorem d2_49 : decode method_2_code 49 = .ok (.ldc 9, 2) := by decide +kernel
theorem d2_51 : decode method_2_code 51 = .ok (.if_icmp .ge 5, 3) := by decide +kernel
theorem d2_54 : decode method_2_code 54 = .ok (.iconst 0, 1) := by decide +kernel
theorem d2_55 : decode method_2_code 55 = .ok (.ireturn, 1) := by decide +kernel
theorem d2_56 : decode method_2_code 56 = .ok (.iload_n 0, 1) := by decide +kernel
theorem d2_57 : decode method_2_code 57 = .ok (.ldc 10, 2) := by decide +kernel
theorem d2_59 : decode method_2_code 59 = .ok (.if_icmp .eq 9, 3) := by decide +kernel
theorem d2_62 : decode method_2_code 62 = .ok (.iload_n 0, 1) := by decide +kernel
theorem d2_63 : decode method_2_code 63 = .ok (.ldc 11, 2) := by decide +kernel
theorem d2_65 : decode method_2_code 65 = .ok (.if_icmp .ne 5, 3) := by decide +kernel
theorem d2_68 : decode method_2_code 68 = .ok (.iconst 0, 1) := by decide +kernel
theorem d2_69 : decode method_2_code 69 = .ok (.ireturn, 1) := by decide +kernel
theorem d2_70 : decode method_2_code 70 = .ok (.iconst 1, 1) := by decide +kernel
theorem d2_71 : decode method_2_code 71 = .ok (.ireturn, 1) := by decide +kernel
theorem pn_2 : plainName "com/example/loomwright/loomwright/rule/XmlTextIsAllowedPinLaw" = true := by first | (simp [plainName, overriddenIn]; done) | decide +kernel
theorem ef_2 (m : MethodId) (p1 : Int32) : entryFrame m #[(.int p1)] 1 = mkF m 0 #[.val (.int p1)] [] := by first | (simp [entryFrame, mkF, argsToLocals, Value.category]; done) | rfl
def Q2 (Z : State) (p1 : Int32)  (h0 : Heap) (n0 : Nat) : Option Value → Heap → List Loc → Prop := fun v h L => v = some (.int (F_ref p1)) ∧ Fr n0 L ∧ h = h0
set_option maxRecDepth 65536 in
set_option maxHeartbeats 40000000 in
theorem rm2 (l : Launch) (Z : State) (a0 : Array Value) (hw : ∀ d ∈ tables_1, d.before a0 Z = true) (ws : List Jvm.Cond) (p1 : Int32)  (h0 : Heap) (n0 : Nat) (Z0 : n0 ≤ h0.size)  :
    MetFree l (⟨"com/example/loomwright/loomwright/rule/XmlTextIsAllowedPinLaw", "ref", "(I)Z"⟩ : MethodName) (head1 (Jvm.Cond.code (⟨"com/example/loomwright/loomwright/rule/XmlTextIsAllowedPinLaw", "ref", "(I)Z"⟩ : MethodName) method_2_code 1 (some .boolean) :: ws) ({ frames := 0, cells := 0, slots := 0, locals := 0 } : Room)) (fun a U => a = #[(.int p1)] ∧ Z.Warmed39 U.vm ∧ U.heap = h0) (fun _ _ _ _ _ => True) (fun _ U o U' => ∃ v L, o = .returned v ∧ (Q2 Z p1 h0 n0) v U'.heap L ∧ FrameEnd U o U' L ({ frames := 0, cells := 0, slots := 0, locals := 0 } : Room).cells ({ frames := 0, cells := 0, slots := 0, locals := 0 } : Room).slots) := by
  refine MetFree.of_bodySF (plainFor_of_name pn_2) hisR ?_
  intro p e s m args below meth c s₁ Bd hml0 hP hK
  obtain ⟨rfl, hZ, hh⟩ := hP
  have hx := Bd.exec
  have hby := Bd.bytes
  have hml : c.maxLocals = 1 := hml0
  have hown : s.vm.findClass "com/example/loomwright/loomwright/rule/XmlTextIsAllowedPinLaw" = some m.cls := findClass_of_methodNamed Bd.named
  have hnm := (name_of_methodNamed Bd.named Bd.method).1
  have X0 : Stand p l e ({ frames := 0, cells := 0, slots := 0, locals := 0 } : Room) s m #[(.int p1)] below meth c s₁ [] 0 0 := Stand.of_body Bd
  have e0 : s₁.heap = h0 := by rw [← hh, Bd.state]; rfl
  have N0 := Fr.nil n0
  show Own.Fin p e below _ (Own.Post s (Q2 Z p1 h0 n0) ({ frames := 0, cells := 0, slots := 0, locals := 0 } : Room).cells ({ frames := 0, cells := 0, slots := 0, locals := 0 } : Room).slots)
  refine Own.start (ef_2 m p1) ?_
  show Own.Fin p e below (s₁.setTop (mkF m 0 #[.val (.int p1)] [])) _
  refine Own.go (fun t k => XS.iloadN X0.here hx rfl (hb hby d2_0) rfl k) ?_
  show Own.Fin p e below (s₁.setTop (mkF m 1 #[.val (.int p1)] [(.int p1)])) _
  by_cases hc1_0 : p1 < (0 : Int32)
  · skip
    refine Own.go (fun t k => XS.ifYes X0.here hx rfl (pc0 := 1) (pc' := 10) rfl (hb hby d2_1) rfl ((if0 _ _).trans (tlt hc1_0).1) (by decide) (by decide) k) ?_
    show Own.Fin p e below (s₁.setTop (mkF m 10 #[.val (.int p1)] [])) _
    refine Own.go (fun t k => XS.iconst X0.here hx rfl (hb hby d2_10) k) ?_
    show Own.Fin p e below (s₁.setTop (mkF m 11 #[.val (.int p1)] [(.int (0 : Int32))])) _
    refine Own.retN X0 hx Bd.notSynchronized (t := .boolean) Bd.returns (by simp) (hb hby d2_11) (by decide) (by decide) ?_
    exact ⟨by rw [show F_ref p1 = (0 : Int32) by simp [F_ref, F_r2, F_r3, hc1_0]]; rfl, N0, e0⟩
  · skip
    refine Own.go (fun t k => XS.ifNo X0.here hx rfl (hb hby d2_1) rfl ((if0 _ _).trans (flt hc1_0).1) k) ?_
    show Own.Fin p e below (s₁.setTop (mkF m 4 #[.val (.int p1)] [])) _
    refine Own.go (fun t k => XS.iloadN X0.here hx rfl (hb hby d2_4) rfl k) ?_
    show Own.Fin p e below (s₁.setTop (mkF m 5 #[.val (.int p1)] [(.int p1)])) _
    refine Own.go (fun t k => X0.ldcInt hx hown (mvT hZ (hw _ (List.mem_of_getElem? (i := 10) rfl))) (g := (mkF m 5 #[.val (.int p1)] [(.int p1)])) rfl (hb hby d2_5) _ k) ?_
    show Own.Fin p e below (s₁.setTop (mkF m 7 #[.val (.int p1)] [(.int (1114111 : Int32)), (.int p1)])) _
    by_cases hc7_1 : (1114111 : Int32) < p1
    · skip
      refine Own.go (fun t k => XS.icmpNo X0.here hx rfl (hb hby d2_7) rfl (tlt hc7_1).2.2.2 k) ?_
      show Own.Fin p e below (s₁.setTop (mkF m 10 #[.val (.int p1)] [])) _
      refine Own.go (fun t k => XS.iconst X0.here hx rfl (hb hby d2_10) k) ?_
      show Own.Fin p e below (s₁.setTop (mkF m 11 #[.val (.int p1)] [(.int (0 : Int32))])) _
      refine Own.retN X0 hx Bd.notSynchronized (t := .boolean) Bd.returns (by simp) (hb hby d2_11) (by decide) (by decide) ?_
      exact ⟨by rw [show F_ref p1 = (0 : Int32) by simp [F_ref, F_r2, F_r3, hc1_0, hc7_1]]; rfl, N0, e0⟩
    · skip
      refine Own.go (fun t k => XS.icmpYes X0.here hx rfl (pc0 := 7) (pc' := 12) rfl (hb hby d2_7) rfl (flt hc7_1).2.2.2 (by decide) (by decide) k) ?_
      show Own.Fin p e below (s₁.setTop (mkF m 12 #[.val (.int p1)] [])) _
      refine Own.go (fun t k => XS.iloadN X0.here hx rfl (hb hby d2_12) rfl k) ?_
      show Own.Fin p e below (s₁.setTop (mkF m 13 #[.val (.int p1)] [(.int p1)])) _
      refine Own.go (fun t k => XS.bipush X0.here hx rfl (hb hby d2_13) k) ?_
      show Own.Fin p e below (s₁.setTop (mkF m 15 #[.val (.int p1)] [(.int (32 : Int32)), (.int p1)])) _
      by_cases hc15_2 : p1 < (32 : Int32)
      · skip
        refine Own.go (fun t k => XS.icmpNo X0.here hx rfl (hb hby d2_15) rfl (tlt hc15_2).2.1 k) ?_
        show Own.Fin p e below (s₁.setTop (mkF m 18 #[.val (.int p1)] [])) _
        refine Own.go (fun t k => XS.iloadN X0.here hx rfl (hb hby d2_18) rfl k) ?_
        show Own.Fin p e below (s₁.setTop (mkF m 19 #[.val (.int p1)] [(.int p1)])) _
        refine Own.go (fun t k => XS.bipush X0.here hx rfl (hb hby d2_19) k) ?_
        show Own.Fin p e below (s₁.setTop (mkF m 21 #[.val (.int p1)] [(.int (9 : Int32)), (.int p1)])) _
        by_cases hc21_3 : p1 = (9 : Int32)
        · skip
          refine Own.go (fun t k => XS.icmpYes X0.here hx rfl (pc0 := 21) (pc' := 36) rfl (hb hby d2_21) rfl (teq hc21_3).1 (by decide) (by decide) k) ?_
          show Own.Fin p e below (s₁.setTop (mkF m 36 #[.val (.int p1)] [])) _
          refine Own.go (fun t k => XS.iconst X0.here hx rfl (hb hby d2_36) k) ?_
          show Own.Fin p e below (s₁.setTop (mkF m 37 #[.val (.int p1)] [(.int (1 : Int32))])) _
          refine Own.go (fun t k => XS.goto X0.here hx rfl (pc0 := 37) (pc' := 41) rfl (hb hby d2_37) (by decide) (by decide) k) ?_
          show Own.Fin p e below (s₁.setTop (mkF m 41 #[.val (.int p1)] [(.int (1 : Int32))])) _
          refine Own.retN X0 hx Bd.notSynchronized (t := .boolean) Bd.returns (by simp) (hb hby d2_41) (by decide) (by decide) ?_
          exact ⟨by rw [show F_ref p1 = (1 : Int32) by simp [F_ref, F_r2, F_r3, hc1_0, hc7_1, hc15_2, hc21_3]]; rfl, N0, e0⟩
        · skip
          refine Own.go (fun t k => XS.icmpNo X0.here hx rfl (hb hby d2_21) rfl (feq hc21_3).1 k) ?_
          show Own.Fin p e below (s₁.setTop (mkF m 24 #[.val (.int p1)] [])) _
          refine Own.go (fun t k => XS.iloadN X0.here hx rfl (hb hby d2_24) rfl k) ?_
          show Own.Fin p e below (s₁.setTop (mkF m 25 #[.val (.int p1)] [(.int p1)])) _
          refine Own.go (fun t k => XS.bipush X0.here hx rfl (hb hby d2_25) k) ?_
          show Own.Fin p e below (s₁.setTop (mkF m 27 #[.val (.int p1)] [(.int (10 : Int32)), (.int p1)])) _
          by_cases hc27_4 : p1 = (10 : Int32)
          · skip
            refine Own.go (fun t k => XS.icmpYes X0.here hx rfl (pc0 := 27) (pc' := 36) rfl (hb hby d2_27) rfl (teq hc27_4).1 (by decide) (by decide) k) ?_
            show Own.Fin p e below (s₁.setTop (mkF m 36 #[.val (.int p1)] [])) _
            refine Own.go (fun t k => XS.iconst X0.here hx rfl (hb hby d2_36) k) ?_
            show Own.Fin p e below (s₁.setTop (mkF m 37 #[.val (.int p1)] [(.int (1 : Int32))])) _
            refine Own.go (fun t k => XS.goto X0.here hx rfl (pc0 := 37) (pc' := 41) rfl (hb hby d2_37) (by decide) (by decide) k) ?_
            show Own.Fin p e below (s₁.setTop (mkF m 41 #[.val (.int p1)] [(.int (1 : Int32))])) _
            refine Own.retN X0 hx Bd.notSynchronized (t := .boolean) Bd.returns (by simp) (hb hby d2_41) (by decide) (by decide) ?_
            exact ⟨by rw [show F_ref p1 = (1 : Int32) by simp [F_ref, F_r2, F_r3, hc1_0, hc7_1, hc15_2, hc21_3, hc27_4]]; rfl, N0, e0⟩
          · skip
            refine Own.go (fun t k => XS.icmpNo X0.here hx rfl (hb hby d2_27) rfl (feq hc27_4).1 k) ?_
            show Own.Fin p e below (s₁.setTop (mkF m 30 #[.val (.int p1)] [])) _
            refine Own.go (fun t k => XS.iloadN X0.here hx rfl (hb hby d2_30) rfl k) ?_
            show Own.Fin p e below (s₁.setTop (mkF m 31 #[.val (.int p1)] [(.int p1)])) _
            refine Own.go (fun t k => XS.bipush X0.here hx rfl (hb hby d2_31) k) ?_
            show Own.Fin p e below (s₁.setTop (mkF m 33 #[.val (.int p1)] [(.int (13 : Int32)), (.int p1)])) _
            by_cases hc33_5 : p1 = (13 : Int32)
            · skip
              refine Own.go (fun t k => XS.icmpNo X0.here hx rfl (hb hby d2_33) rfl (teq hc33_5).2 k) ?_
              show Own.Fin p e below (s₁.setTop (mkF m 36 #[.val (.int p1)] [])) _
              refine Own.go (fun t k => XS.iconst X0.here hx rfl (hb hby d2_36) k) ?_
              show Own.Fin p e below (s₁.setTop (mkF m 37 #[.val (.int p1)] [(.int (1 : Int32))])) _
              refine Own.go (fun t k => XS.goto X0.here hx rfl (pc0 := 37) (pc' := 41) rfl (hb hby d2_37) (by decide) (by decide) k) ?_
              show Own.Fin p e below (s₁.setTop (mkF m 41 #[.val (.int p1)] [(.int (1 : Int32))])) _
              refine Own.retN X0 hx Bd.notSynchronized (t := .boolean) Bd.returns (by simp) (hb hby d2_41) (by decide) (by decide) ?_
              exact ⟨by rw [show F_ref p1 = (1 : Int32) by simp [F_ref, F_r2, F_r3, hc1_0, hc7_1, hc15_2, hc21_3, hc27_4, hc33_5]]; rfl, N0, e0⟩
            · skip
              refine Own.go (fun t k => XS.icmpYes X0.here hx rfl (pc0 := 33) (pc' := 40) rfl (hb hby d2_33) rfl (feq hc33_5).2 (by decide) (by decide) k) ?_
              show Own.Fin p e below (s₁.setTop (mkF m 40 #[.val (.int p1)] [])) _
              refine Own.go (fun t k => XS.iconst X0.here hx rfl (hb hby d2_40) k) ?_
              show Own.Fin p e below (s₁.setTop (mkF m 41 #[.val (.int p1)] [(.int (0 : Int32))])) _
              refine Own.retN X0 hx Bd.notSynchronized (t := .boolean) Bd.returns (by simp) (hb hby d2_41) (by decide) (by decide) ?_
              exact ⟨by rw [show F_ref p1 = (0 : Int32) by simp [F_ref, F_r2, F_r3, hc1_0, hc7_1, hc15_2, hc21_3, hc27_4, hc33_5]]; rfl, N0, e0⟩
      · skip
        refine Own.go (fun t k => XS.icmpYes X0.here hx rfl (pc0 := 15) (pc' := 42) rfl (hb hby d2_15) rfl (flt hc15_2).2.1 (by decide) (by decide) k) ?_
        show Own.Fin p e below (s₁.setTop (mkF m 42 #[.val (.int p1)] [])) _
        refine Own.go (fun t k => XS.iloadN X0.here hx rfl (hb hby d2_42) rfl k) ?_
        show Own.Fin p e below (s₁.setTop (mkF m 43 #[.val (.int p1)] [(.int p1)])) _
        refine Own.go (fun t k => X0.ldcInt hx hown (mvT hZ (hw _ (List.mem_of_getElem? (i := 3) rfl))) (g := (mkF m 43 #[.val (.int p1)] [(.int p1)])) rfl (hb hby d2_43) _ k) ?_
        show Own.Fin p e below (s₁.setTop (mkF m 45 #[.val (.int p1)] [(.int (55296 : Int32)), (.int p1)])) _
        by_cases hc45_6 : p1 < (55296 : Int32)
        · skip
          refine Own.go (fun t k => XS.icmpYes X0.here hx rfl (pc0 := 45) (pc' := 56) rfl (hb hby d2_45) rfl (tlt hc45_6).1 (by decide) (by decide) k) ?_
          show Own.Fin p e below (s₁.setTop (mkF m 56 #[.val (.int p1)] [])) _
          refine Own.go (fun t k => XS.iloadN X0.here hx rfl (hb hby d2_56) rfl k) ?_
          show Own.Fin p e below (s₁.setTop (mkF m 57 #[.val (.int p1)] [(.int p1)])) _
          refine Own.go (fun t k => X0.ldcInt hx hown (mvT hZ (hw _ (List.mem_of_getElem? (i := 7) rfl))) (g := (mkF m 57 #[.val (.int p1)] [(.int p1)])) rfl (hb hby d2_57) _ k) ?_
          show Own.Fin p e below (s₁.setTop (mkF m 59 #[.val (.int p1)] [(.int (65534 : Int32)), (.int p1)])) _
          by_cases hc59_7 : p1 = (65534 : Int32)
          · skip
            refine Own.go (fun t k => XS.icmpYes X0.here hx rfl (pc0 := 59) (pc' := 68) rfl (hb hby d2_59) rfl (teq hc59_7).1 (by decide) (by decide) k) ?_
            show Own.Fin p e below (s₁.setTop (mkF m 68 #[.val (.int p1)] [])) _
            refine Own.go (fun t k => XS.iconst X0.here hx rfl (hb hby d2_68) k) ?_
            show Own.Fin p e below (s₁.setTop (mkF m 69 #[.val (.int p1)] [(.int (0 : Int32))])) _
            refine Own.retN X0 hx Bd.notSynchronized (t := .boolean) Bd.returns (by simp) (hb hby d2_69) (by decide) (by decide) ?_
            exact ⟨by rw [show F_ref p1 = (0 : Int32) by simp [F_ref, F_r2, F_r3, hc1_0, hc7_1, hc15_2, hc45_6, hc59_7]]; rfl, N0, e0⟩
          · skip
            refine Own.go (fun t k => XS.icmpNo X0.here hx rfl (hb hby d2_59) rfl (feq hc59_7).1 k) ?_
            show Own.Fin p e below (s₁.setTop (mkF m 62 #[.val (.int p1)] [])) _
            refine Own.go (fun t k => XS.iloadN X0.here hx rfl (hb hby d2_62) rfl k) ?_
            show Own.Fin p e below (s₁.setTop (mkF m 63 #[.val (.int p1)] [(.int p1)])) _
            refine Own.go (fun t k => X0.ldcInt hx hown (mvT hZ (hw _ (List.mem_of_getElem? (i := 8) rfl))) (g := (mkF m 63 #[.val (.int p1)] [(.int p1)])) rfl (hb hby d2_63) _ k) ?_
            show Own.Fin p e below (s₁.setTop (mkF m 65 #[.val (.int p1)] [(.int (65535 : Int32)), (.int p1)])) _
            by_cases hc65_8 : p1 = (65535 : Int32)
            · skip
              refine Own.go (fun t k => XS.icmpNo X0.here hx rfl (hb hby d2_65) rfl (teq hc65_8).2 k) ?_
              show Own.Fin p e below (s₁.setTop (mkF m 68 #[.val (.int p1)] [])) _
              refine Own.go (fun t k => XS.iconst X0.here hx rfl (hb hby d2_68) k) ?_
              show Own.Fin p e below (s₁.setTop (mkF m 69 #[.val (.int p1)] [(.int (0 : Int32))])) _
              refine Own.retN X0 hx Bd.notSynchronized (t := .boolean) Bd.returns (by simp) (hb hby d2_69) (by decide) (by decide) ?_
              exact ⟨by rw [show F_ref p1 = (0 : Int32) by simp [F_ref, F_r2, F_r3, hc1_0, hc7_1, hc15_2, hc45_6, hc59_7, hc65_8]]; rfl, N0, e0⟩
            · skip
              refine Own.go (fun t k => XS.icmpYes X0.here hx rfl (pc0 := 65) (pc' := 70) rfl (hb hby d2_65) rfl (feq hc65_8).2 (by decide) (by decide) k) ?_
              show Own.Fin p e below (s₁.setTop (mkF m 70 #[.val (.int p1)] [])) _
              refine Own.go (fun t k => XS.iconst X0.here hx rfl (hb hby d2_70) k) ?_
              show Own.Fin p e below (s₁.setTop (mkF m 71 #[.val (.int p1)] [(.int (1 : Int32))])) _
              refine Own.retN X0 hx Bd.notSynchronized (t := .boolean) Bd.returns (by simp) (hb hby d2_71) (by decide) (by decide) ?_
              exact ⟨by rw [show F_ref p1 = (1 : Int32) by simp [F_ref, F_r2, F_r3, hc1_0, hc7_1, hc15_2, hc45_6, hc59_7, hc65_8]]; rfl, N0, e0⟩
        · skip
          refine Own.go (fun t k => XS.icmpNo X0.here hx rfl (hb hby d2_45) rfl (flt hc45_6).1 k) ?_
          show Own.Fin p e below (s₁.setTop (mkF m 48 #[.val (.int p1)] [])) _
          refine Own.go (fun t k => XS.iloadN X0.here hx rfl (hb hby d2_48) rfl k) ?_
          show Own.Fin p e below (s₁.setTop (mkF m 49 #[.val (.int p1)] [(.int p1)])) _
          refine Own.go (fun t k => X0.ldcInt hx hown (mvT hZ (hw _ (List.mem_of_getElem? (i := 5) rfl))) (g := (mkF m 49 #[.val (.int p1)] [(.int p1)])) rfl (hb hby d2_49) _ k) ?_
          show Own.Fin p e below (s₁.setTop (mkF m 51 #[.val (.int p1)] [(.int (57344 : Int32)), (.int p1)])) _
          by_cases hc51_9 : p1 < (57344 : Int32)
          · skip
            refine Own.go (fun t k => XS.icmpNo X0.here hx rfl (hb hby d2_51) rfl (tlt hc51_9).2.1 k) ?_
            show Own.Fin p e below (s₁.setTop (mkF m 54 #[.val (.int p1)] [])) _
            refine Own.go (fun t k => XS.iconst X0.here hx rfl (hb hby d2_54) k) ?_
            show Own.Fin p e below (s₁.setTop (mkF m 55 #[.val (.int p1)] [(.int (0 : Int32))])) _
            refine Own.retN X0 hx Bd.notSynchronized (t := .boolean) Bd.returns (by simp) (hb hby d2_55) (by decide) (by decide) ?_
            exact ⟨by rw [show F_ref p1 = (0 : Int32) by simp [F_ref, F_r2, F_r3, hc1_0, hc7_1, hc15_2, hc45_6, hc51_9]]; rfl, N0, e0⟩
          · skip
            refine Own.go (fun t k => XS.icmpYes X0.here hx rfl (pc0 := 51) (pc' := 56) rfl (hb hby d2_51) rfl (flt hc51_9).2.1 (by decide) (by decide) k) ?_
            show Own.Fin p e below (s₁.setTop (mkF m 56 #[.val (.int p1)] [])) _
            refine Own.go (fun t k => XS.iloadN X0.here hx rfl (hb hby d2_56) rfl k) ?_
            show Own.Fin p e below (s₁.setTop (mkF m 57 #[.val (.int p1)] [(.int p1)])) _
            refine Own.go (fun t k => X0.ldcInt hx hown (mvT hZ (hw _ (List.mem_of_getElem? (i := 7) rfl))) (g := (mkF m 57 #[.val (.int p1)] [(.int p1)])) rfl (hb hby d2_57) _ k) ?_
            show Own.Fin p e below (s₁.setTop (mkF m 59 #[.val (.int p1)] [(.int (65534 : Int32)), (.int p1)])) _
            by_cases hc59_10 : p1 = (65534 : Int32)
            · skip
              refine Own.go (fun t k => XS.icmpYes X0.here hx rfl (pc0 := 59) (pc' := 68) rfl (hb hby d2_59) rfl (teq hc59_10).1 (by decide) (by decide) k) ?_
              show Own.Fin p e below (s₁.setTop (mkF m 68 #[.val (.int p1)] [])) _
              refine Own.go (fun t k => XS.iconst X0.here hx rfl (hb hby d2_68) k) ?_
              show Own.Fin p e below (s₁.setTop (mkF m 69 #[.val (.int p1)] [(.int (0 : Int32))])) _
              refine Own.retN X0 hx Bd.notSynchronized (t := .boolean) Bd.returns (by simp) (hb hby d2_69) (by decide) (by decide) ?_
              exact ⟨by rw [show F_ref p1 = (0 : Int32) by simp [F_ref, F_r2, F_r3, hc1_0, hc7_1, hc15_2, hc45_6, hc51_9, hc59_10]]; rfl, N0, e0⟩
            · skip
              refine Own.go (fun t k => XS.icmpNo X0.here hx rfl (hb hby d2_59) rfl (feq hc59_10).1 k) ?_
              show Own.Fin p e below (s₁.setTop (mkF m 62 #[.val (.int p1)] [])) _
              refine Own.go (fun t k => XS.iloadN X0.here hx rfl (hb hby d2_62) rfl k) ?_
              show Own.Fin p e below (s₁.setTop (mkF m 63 #[.val (.int p1)] [(.int p1)])) _
              refine Own.go (fun t k => X0.ldcInt hx hown (mvT hZ (hw _ (List.mem_of_getElem? (i := 8) rfl))) (g := (mkF m 63 #[.val (.int p1)] [(.int p1)])) rfl (hb hby d2_63) _ k) ?_
              show Own.Fin p e below (s₁.setTop (mkF m 65 #[.val (.int p1)] [(.int (65535 : Int32)), (.int p1)])) _
              by_cases hc65_11 : p1 = (65535 : Int32)
              · skip
                refine Own.go (fun t k => XS.icmpNo X0.here hx rfl (hb hby d2_65) rfl (teq hc65_11).2 k) ?_
                show Own.Fin p e below (s₁.setTop (mkF m 68 #[.val (.int p1)] [])) _
                refine Own.go (fun t k => XS.iconst X0.here hx rfl (hb hby d2_68) k) ?_
                show Own.Fin p e below (s₁.setTop (mkF m 69 #[.val (.int p1)] [(.int (0 : Int32))])) _
                refine Own.retN X0 hx Bd.notSynchronized (t := .boolean) Bd.returns (by simp) (hb hby d2_69) (by decide) (by decide) ?_
                exact ⟨by rw [show F_ref p1 = (0 : Int32) by simp [F_ref, F_r2, F_r3, hc1_0, hc7_1, hc15_2, hc45_6, hc51_9, hc59_10, hc65_11]]; rfl, N0, e0⟩
              · skip
                refine Own.go (fun t k => XS.icmpYes X0.here hx rfl (pc0 := 65) (pc' := 70) rfl (hb hby d2_65) rfl (feq hc65_11).2 (by decide) (by decide) k) ?_
                show Own.Fin p e below (s₁.setTop (mkF m 70 #[.val (.int p1)] [])) _
                refine Own.go (fun t k => XS.iconst X0.here hx rfl (hb hby d2_70) k) ?_
                show Own.Fin p e below (s₁.setTop (mkF m 71 #[.val (.int p1)] [(.int (1 : Int32))])) _
                refine Own.retN X0 hx Bd.notSynchronized (t := .boolean) Bd.returns (by simp) (hb hby d2_71) (by decide) (by decide) ?_
                exact ⟨by rw [show F_ref p1 = (1 : Int32) by simp [F_ref, F_r2, F_r3, hc1_0, hc7_1, hc15_2, hc45_6, hc51_9, hc59_10, hc65_11]]; rfl, N0, e0⟩
theorem pd_0 : parseMethodDescriptor "(I)Z" = some ⟨[.int], some .boolean⟩ := by decide +kernel
theorem pn_0 : plainName "com/example/loomwright/loomwright/rule/XmlTextIsAllowedPinLaw" = true := by first | (simp [plainName, overriddenIn]; done) | decide +kernel
theorem ef_0 (m : MethodId) (p1 : Int32) (p2 : Int32) : entryFrame m #[(.int p1), (.int p2)] maxLocals = mkF m 0 #[.val (.int p1), .val (.int p2), .unset, .unset, .unset, .unset, .unset, .unset] [] := by first | (simp [entryFrame, mkF, argsToLocals, Value.category, maxLocals]; done) | rfl
def Q0 (Z : State) (p1 : Int32) (p2 : Int32)  (h0 : Heap) (n0 : Nat) : Option Value → Heap → List Loc → Prop := fun v h L => v = some (.int 1) ∧ Fr n0 L
set_option maxRecDepth 65536 in
set_option maxHeartbeats 40000000 in
theorem rm0 (l : Launch) (Z : State) (a0 : Array Value) (hw : ∀ d ∈ tables_1, d.before a0 Z = true) (ws : List Jvm.Cond) (p1 : Int32) (p2 : Int32)  (h0 : Heap) (n0 : Nat) (Z0 : n0 ≤ h0.size)  :
    MetFree l x (head1 (Jvm.Cond.code x code maxLocals ret :: ws) room_1) (fun a U => a = #[(.int p1), (.int p2)] ∧ Z.Warmed39 U.vm ∧ U.heap = h0) (fun _ _ _ _ _ => True) (fun _ U o U' => ∃ v L, o = .returned v ∧ (Q0 Z p1 p2 h0 n0) v U'.heap L ∧ FrameEnd U o U' L room_1.cells room_1.slots) := by
  refine MetFree.of_bodySF (plainFor_of_name pn_0) hisR ?_
  intro p e s m args below meth c s₁ Bd hml0 hP hK
  obtain ⟨rfl, hZ, hh⟩ := hP
  have hx := Bd.exec
  have hby := Bd.bytes
  have hml : c.maxLocals = 8 := hml0
  have hown : s.vm.findClass "com/example/loomwright/loomwright/rule/XmlTextIsAllowedPinLaw" = some m.cls := findClass_of_methodNamed Bd.named
  have hnm := (name_of_methodNamed Bd.named Bd.method).1
  have X0 : Stand p l e room_1 s m #[(.int p1), (.int p2)] below meth c s₁ [] 0 0 := Stand.of_body Bd
  have e0 : s₁.heap = h0 := by rw [← hh, Bd.state]; rfl
  have N0 := Fr.nil n0
  show Own.Fin p e below _ (Own.Post s (Q0 Z p1 p2 h0 n0) room_1.cells room_1.slots)
  refine Own.start (ef_0 m p1 p2) ?_
  show Own.Fin p e below (s₁.setTop (mkF m 0 #[.val (.int p1), .val (.int p2), .unset, .unset, .unset, .unset, .unset, .unset] [])) _
  refine Own.go (fun t k => XS.bipush X0.here hx rfl (hb hby at_0) k) ?_
  show Own.Fin p e below (s₁.setTop (mkF m 2 #[.val (.int p1), .val (.int p2), .unset, .unset, .unset, .unset, .unset, .unset] [(.int (23 : Int32))])) _
  refine Own.newA X0 hx hZ (hw _ (List.mem_of_getElem? (i := 0) rfl)) e0 (hb hby at_2) (by decide) 23 (by decide) (by decide) (by decide) (by decide) ?_
  intro T1 h1 b1 k1 X1 e1 E1 gb1 V1
  have ge1 : n0 ≤ b1 := by rw [gb1]; exact Z0
  have Z1 : n0 ≤ h1.size := Nat.le_trans Z0 E1.1
  have Vp1 : Arv Z h1 b1 k1 .int (23 : Int32) [(.int (0 : Int32)), (.int (0 : Int32)), (.int (0 : Int32)), (.int (0 : Int32)), (.int (0 : Int32)), (.int (0 : Int32)), (.int (0 : Int32)), (.int (0 : Int32)), (.int (0 : Int32)), (.int (0 : Int32)), (.int (0 : Int32)), (.int (0 : Int32)), (.int (0 : Int32)), (.int (0 : Int32)), (.int (0 : Int32)), (.int (0 : Int32)), (.int (0 : Int32)), (.int (0 : Int32)), (.int (0 : Int32)), (.int (0 : Int32)), (.int (0 : Int32)), (.int (0 : Int32)), (.int (0 : Int32))] (.int (0 : Int32)) := Arv.pad V1 (pad_rep [] (.int (0 : Int32)) 23)
  show Own.Fin p e below (T1.setTop (mkF m 4 #[.val (.int p1), .val (.int p2), .unset, .unset, .unset, .unset, .unset, .unset] [(.ref b1)])) _
  refine Own.go (fun t k => XS.dup X1.here hx rfl (hb hby at_4) rfl rfl k) ?_
  show Own.Fin p e below (T1.setTop (mkF m 5 #[.val (.int p1), .val (.int p2), .unset, .unset, .unset, .unset, .unset, .unset] [(.ref b1), (.ref b1)])) _
  refine Own.go (fun t k => XS.iconst X1.here hx rfl (hb hby at_5) k) ?_
  show Own.Fin p e below (T1.setTop (mkF m 6 #[.val (.int p1), .val (.int p2), .unset, .unset, .unset, .unset, .unset, .unset] [(.int (0 : Int32)), (.ref b1), (.ref b1)])) _
  refine Own.go (fun t k => X1.ldcInt hx hown (mvT hZ (hw _ (List.mem_of_getElem? (i := 1) rfl))) (g := (mkF m 6 #[.val (.int p1), .val (.int p2), .unset, .unset, .unset, .unset, .unset, .unset] [(.int (0 : Int32)), (.ref b1), (.ref b1)])) rfl (hb hby at_6) _ k) ?_
  show Own.Fin p e below (T1.setTop (mkF m 8 #[.val (.int p1), .val (.int p2), .unset, .unset, .unset, .unset, .unset, .unset] [(.int (-2147483648 : Int32)), (.int (0 : Int32)), (.ref b1), (.ref b1)])) _
  refine Own.stI X1 hx hZ e1 Vp1 (hb hby at_8) ⟨by decide, by decide⟩ 0 rfl (Nat.le_of_ble_eq_true rfl) ?_
  intro T2 h2 X2 e2 W2 V2
  have N2 := Fr.snoc X2 N0 ge1
  have Z2 : n0 ≤ h2.size := by rw [W2.size]; exact Z1
  have Vq2 : Arv Z h2 b1 k1 .int (23 : Int32) [(.int (-2147483648 : Int32)), (.int (0 : Int32)), (.int (0 : Int32)), (.int (0 : Int32)), (.int (0 : Int32)), (.int (0 : Int32)), (.int (0 : Int32)), (.int (0 : Int32)), (.int (0 : Int32)), (.int (0 : Int32)), (.int (0 : Int32)), (.int (0 : Int32)), (.int (0 : Int32)), (.int (0 : Int32)), (.int (0 : Int32)), (.int (0 : Int32)), (.int (0 : Int32)), (.int (0 : Int32)), (.int (0 : Int32)), (.int (0 : Int32)), (.int (0 : Int32)), (.int (0 : Int32)), (.int (0 : Int32))] (.int (0 : Int32)) := V2
  show Own.Fin p e below (T2.setTop (mkF m 9 #[.val (.int p1), .val (.int p2), .unset, .unset, .unset, .unset, .unset, .unset] [(.ref b1)])) _
  refine Own.go (fun t k => XS.dup X2.here hx rfl (hb hby at_9) rfl rfl k) ?_
  show Own.Fin p e below (T2.setTop (mkF m 10 #[.val (.int p1), .val (.int p2), .unset, .unset, .unset, .unset, .unset, .unset] [(.ref b1), (.ref b1)])) _
  refine Own.go (fun t k => XS.iconst X2.here hx rfl (hb hby at_10) k) ?_
  show Own.Fin p e below (T2.setTop (mkF m 11 #[.val (.int p1), .val (.int p2), .unset, .unset, .unset, .unset, .unset, .unset] [(.int (1 : Int32)), (.ref b1), (.ref b1)])) _
  refine Own.go (fun t k => XS.iconst X2.here hx rfl (hb hby at_11) k) ?_
  show Own.Fin p e below (T2.setTop (mkF m 12 #[.val (.int p1), .val (.int p2), .unset, .unset, .unset, .unset, .unset, .unset] [(.int (-1 : Int32)), (.int (1 : Int32)), (.ref b1), (.ref b1)])) _
  refine Own.stI X2 hx hZ e2 Vq2 (hb hby at_12) ⟨by decide, by decide⟩ 1 rfl (Nat.le_of_ble_eq_true rfl) ?_
  intro T3 h3 X3 e3 W3 V3
  have N3 := Fr.snoc X3 N2 ge1
  have Z3 : n0 ≤ h3.size := by rw [W3.size]; exact Z2
  have Vq3 : Arv Z h3 b1 k1 .int (23 : Int32) [(.int (-2147483648 : Int32)), (.int (-1 : Int32)), (.int (0 : Int32)), (.int (0 : Int32)), (.int (0 : Int32)), (.int (0 : Int32)), (.int (0 : Int32)), (.int (0 : Int32)), (.int (0 : Int32)), (.int (0 : Int32)), (.int (0 : Int32)), (.int (0 : Int32)), (.int (0 : Int32)), (.int (0 : Int32)), (.int (0 : Int32)), (.int (0 : Int32)), (.int (0 : Int32)), (.int (0 : Int32)), (.int (0 : Int32)), (.int (0 : Int32)), (.int (0 : Int32)), (.int (0 : Int32)), (.int (0 : Int32))] (.int (0 : Int32)) := V3
  show Own.Fin p e below (T3.setTop (mkF m 13 #[.val (.int p1), .val (.int p2), .unset, .unset, .unset, .unset, .unset, .unset] [(.ref b1)])) _
  refine Own.go (fun t k => XS.dup X3.here hx rfl (hb hby at_13) rfl rfl k) ?_
  show Own.Fin p e below (T3.setTop (mkF m 14 #[.val (.int p1), .val (.int p2), .unset, .unset, .unset, .unset, .unset, .unset] [(.ref b1), (.ref b1)])) _
  refine Own.go (fun t k => XS.iconst X3.here hx rfl (hb hby at_14) k) ?_
  show Own.Fin p e below (T3.setTop (mkF m 15 #[.val (.int p1), .val (.int p2), .unset, .unset, .unset, .unset, .unset, .unset] [(.int (2 : Int32)), (.ref b1), (.ref b1)])) _
  refine Own.go (fun t k => XS.iconst X3.here hx rfl (hb hby at_15) k) ?_
  show Own.Fin p e below (T3.setTop (mkF m 16 #[.val (.int p1), .val (.int p2), .unset, .unset, .unset, .unset, .unset, .unset] [(.int (0 : Int32)), (.int (2 : Int32)), (.ref b1), (.ref b1)])) _
  refine Own.stI X3 hx hZ e3 Vq3 (hb hby at_16) ⟨by decide, by decide⟩ 2 rfl (Nat.le_of_ble_eq_true rfl) ?_
  intro T4 h4 X4 e4 W4 V4
  have N4 := Fr.snoc X4 N3 ge1
  have Z4 : n0 ≤ h4.size := by rw [W4.size]; exact Z3
  have Vq4 : Arv Z h4 b1 k1 .int (23 : Int32) [(.int (-2147483648 : Int32)), (.int (-1 : Int32)), (.int (0 : Int32)), (.int (0 : Int32)), (.int (0 : Int32)), (.int (0 : Int32)), (.int (0 : Int32)), (.int (0 : Int32)), (.int (0 : Int32)), (.int (0 : Int32)), (.int (0 : Int32)), (.int (0 : Int32)), (.int (0 : Int32)), (.int (0 : Int32)), (.int (0 : Int32)), (.int (0 : Int32)), (.int (0 : Int32)), (.int (0 : Int32)), (.int (0 : Int32)), (.int (0 : Int32)), (.int (0 : Int32)), (.int (0 : Int32)), (.int (0 : Int32))] (.int (0 : Int32)) := V4
  show Own.Fin p e below (T4.setTop (mkF m 17 #[.val (.int p1), .val (.int p2), .unset, .unset, .unset, .unset, .unset, .unset] [(.ref b1)])) _
  refine Own.go (fun t k => XS.dup X4.here hx rfl (hb hby at_17) rfl rfl k) ?_
  show Own.Fin p e below (T4.setTop (mkF m 18 #[.val (.int p1), .val (.int p2), .unset, .unset, .unset, .unset, .unset, .unset] [(.ref b1), (.ref b1)])) _
  refine Own.go (fun t k => XS.iconst X4.here hx rfl (hb hby at_18) k) ?_
  show Own.Fin p e below (T4.setTop (mkF m 19 #[.val (.int p1), .val (.int p2), .unset, .unset, .unset, .unset, .unset, .unset] [(.int (3 : Int32)), (.ref b1), (.ref b1)])) _
  refine Own.go (fun t k => XS.bipush X4.here hx rfl (hb hby at_19) k) ?_
  show Own.Fin p e below (T4.setTop (mkF m 21 #[.val (.int p1), .val (.int p2), .unset, .unset, .unset, .unset, .unset, .unset] [(.int (8 : Int32)), (.int (3 : Int32)), (.ref b1), (.ref b1)])) _
  refine Own.stI X4 hx hZ e4 Vq4 (hb hby at_21) ⟨by decide, by decide⟩ 3 rfl (Nat.le_of_ble_eq_true rfl) ?_
  intro T5 h5 X5 e5 W5 V5
  have N5 := Fr.snoc X5 N4 ge1
  have Z5 : n0 ≤ h5.size := by rw [W5.size]; exact Z4
  have Vq5 : Arv Z h5 b1 k1 .int (23 : Int32) [(.int (-2147483648 : Int32)), (.int (-1 : Int32)), (.int (0 : Int32)), (.int (8 : Int32)), (.int (0 : Int32)), (.int (0 : Int32)), (.int (0 : Int32)), (.int (0 : Int32)), (.int (0 : Int32)), (.int (0 : Int32)), (.int (0 : Int32)), (.int (0 : Int32)), (.int (0 : Int32)), (.int (0 : Int32)), (.int (0 : Int32)), (.int (0 : Int32)), (.int (0 : Int32)), (.int (0 : Int32)), (.int (0 : Int32)), (.int (0 : Int32)), (.int (0 : Int32)), (.int (0 : Int32)), (.int (0 : Int32))] (.int (0 : Int32)) := V5
  show Own.Fin p e below (T5.setTop (mkF m 22 #[.val (.int p1), .val (.int p2), .unset, .unset, .unset, .unset, .unset, .unset] [(.ref b1)])) _
  refine Own.go (fun t k => XS.dup X5.here hx rfl (hb hby at_22) rfl rfl k) ?_
  show Own.Fin p e below (T5.setTop (mkF m 23 #[.val (.int p1), .val (.int p2), .unset, .unset, .unset, .unset, .unset, .unset] [(.ref b1), (.ref b1)])) _
  refine Own.go (fun t k => XS.iconst X5.here hx rfl (hb hby at_23) k) ?_
  show Own.Fin p e below (T5.setTop (mkF m 24 #[.val (.int p1), .val (.int p2), .unset, .unset, .unset, .unset, .unset, .unset] [(.int (4 : Int32)), (.ref b1), (.ref b1)])) _
  refine Own.go (fun t k => XS.bipush X5.here hx rfl (hb hby at_24) k) ?_
  show Own.Fin p e below (T5.setTop (mkF m 26 #[.val (.int p1), .val (.int p2), .unset, .unset, .unset, .unset, .unset, .unset] [(.int (9 : Int32)), (.int (4 : Int32)), (.ref b1), (.ref b1)])) _
  refine Own.stI X5 hx hZ e5 Vq5 (hb hby at_26) ⟨by decide, by decide⟩ 4 rfl (Nat.le_of_ble_eq_true rfl) ?_
  intro T6 h6 X6 e6 W6 V6
  have N6 := Fr.snoc X6 N5 ge1
  have Z6 : n0 ≤ h6.size := by rw [W6.size]; exact Z5
  have Vq6 : Arv Z h6 b1 k1 .int (23 : Int32) [(.int (-2147483648 : Int32)), (.int (-1 : Int32)), (.int (0 : Int32)), (.int (8 : Int32)), (.int (9 : Int32)), (.int (0 : Int32)), (.int (0 : Int32)), (.int (0 : Int32)), (.int (0 : Int32)), (.int (0 : Int32)), (.int (0 : Int32)), (.int (0 : Int32)), (.int (0 : Int32)), (.int (0 : Int32)), (.int (0 : Int32)), (.int (0 : Int32)), (.int (0 : Int32)), (.int (0 : Int32)), (.int (0 : Int32)), (.int (0 : Int32)), (.int (0 : Int32)), (.int (0 : Int32)), (.int (0 : Int32))] (.int (0 : Int32)) := V6
  show Own.Fin p e below (T6.setTop (mkF m 27 #[.val (.int p1), .val (.int p2), .unset, .unset, .unset, .unset, .unset, .unset] [(.ref b1)])) _
  refine Own.go (fun t k => XS.dup X6.here hx rfl (hb hby at_27) rfl rfl k) ?_
  show Own.Fin p e below (T6.setTop (mkF m 28 #[.val (.int p1), .val (.int p2), .unset, .unset, .unset, .unset, .unset, .unset] [(.ref b1), (.ref b1)])) _
  refine Own.go (fun t k => XS.iconst X6.here hx rfl (hb hby at_28) k) ?_
  show Own.Fin p e below (T6.setTop (mkF m 29 #[.val (.int p1), .val (.int p2), .unset, .unset, .unset, .unset, .unset, .unset] [(.int (5 : Int32)), (.ref b1), (.ref b1)])) _
  refine Own.go (fun t k => XS.bipush X6.here hx rfl (hb hby at_29) k) ?_
  show Own.Fin p e below (T6.setTop (mkF m 31 #[.val (.int p1), .val (.int p2), .unset, .unset, .unset, .unset, .unset, .unset] [(.int (10 : Int32)), (.int (5 : Int32)), (.ref b1), (.ref b1)])) _
  refine Own.stI X6 hx hZ e6 Vq6 (hb hby at_31) ⟨by decide, by decide⟩ 5 rfl (Nat.le_of_ble_eq_true rfl) ?_
  intro T7 h7 X7 e7 W7 V7
  have N7 := Fr.snoc X7 N6 ge1
  have Z7 : n0 ≤ h7.size := by rw [W7.size]; exact Z6
  have Vq7 : Arv Z h7 b1 k1 .int (23 : Int32) [(.int (-2147483648 : Int32)), (.int (-1 : Int32)), (.int (0 : Int32)), (.int (8 : Int32)), (.int (9 : Int32)), (.int (10 : Int32)), (.int (0 : Int32)), (.int (0 : Int32)), (.int (0 : Int32)), (.int (0 : Int32)), (.int (0 : Int32)), (.int (0 : Int32)), (.int (0 : Int32)), (.int (0 : Int32)), (.int (0 : Int32)), (.int (0 : Int32)), (.int (0 : Int32)), (.int (0 : Int32)), (.int (0 : Int32)), (.int (0 : Int32)), (.int (0 : Int32)), (.int (0 : Int32)), (.int (0 : Int32))] (.int (0 : Int32)) := V7
  show Own.Fin p e below (T7.setTop (mkF m 32 #[.val (.int p1), .val (.int p2), .unset, .unset, .unset, .unset, .unset, .unset] [(.ref b1)])) _
  refine Own.go (fun t k => XS.dup X7.here hx rfl (hb hby at_32) rfl rfl k) ?_
  show Own.Fin p e below (T7.setTop (mkF m 33 #[.val (.int p1), .val (.int p2), .unset, .unset, .unset, .unset, .unset, .unset] [(.ref b1), (.ref b1)])) _
  refine Own.go (fun t k => XS.bipush X7.here hx rfl (hb hby at_33) k) ?_
  show Own.Fin p e below (T7.setTop (mkF m 35 #[.val (.int p1), .val (.int p2), .unset, .unset, .unset, .unset, .unset, .unset] [(.int (6 : Int32)), (.ref b1), (.ref b1)])) _
  refine Own.go (fun t k => XS.bipush X7.here hx rfl (hb hby at_35) k) ?_
  show Own.Fin p e below (T7.setTop (mkF m 37 #[.val (.int p1), .val (.int p2), .unset, .unset, .unset, .unset, .unset, .unset] [(.int (11 : Int32)), (.int (6 : Int32)), (.ref b1), (.ref b1)])) _
  refine Own.stI X7 hx hZ e7 Vq7 (hb hby at_37) ⟨by decide, by decide⟩ 6 rfl (Nat.le_of_ble_eq_true rfl) ?_
  intro T8 h8 X8 e8 W8 V8
  have N8 := Fr.snoc X8 N7 ge1
  have Z8 : n0 ≤ h8.size := by rw [W8.size]; exact Z7
  have Vq8 : Arv Z h8 b1 k1 .int (23 : Int32) [(.int (-2147483648 : Int32)), (.int (-1 : Int32)), (.int (0 : Int32)), (.int (8 : Int32)), (.int (9 : Int32)), (.int (10 : Int32)), (.int (11 : Int32)), (.int (0 : Int32)), (.int (0 : Int32)), (.int (0 : Int32)), (.int (0 : Int32)), (.int (0 : Int32)), (.int (0 : Int32)), (.int (0 : Int32)), (.int (0 : Int32)), (.int (0 : Int32)), (.int (0 : Int32)), (.int (0 : Int32)), (.int (0 : Int32)), (.int (0 : Int32)), (.int (0 : Int32)), (.int (0 : Int32)), (.int (0 : Int32))] (.int (0 : Int32)) := V8
  show Own.Fin p e below (T8.setTop (mkF m 38 #[.val (.int p1), .val (.int p2), .unset, .unset, .unset, .unset, .unset, .unset] [(.ref b1)])) _
  refine Own.go (fun t k => XS.dup X8.here hx rfl (hb hby at_38) rfl rfl k) ?_
  show Own.Fin p e below (T8.setTop (mkF m 39 #[.val (.int p1), .val (.int p2), .unset, .unset, .unset, .unset, .unset, .unset] [(.ref b1), (.ref b1)])) _
  refine Own.go (fun t k => XS.bipush X8.here hx rfl (hb hby at_39) k) ?_
  show Own.Fin p e below (T8.setTop (mkF m 41 #[.val (.int p1), .val (.int p2), .unset, .unset, .unset, .unset, .unset, .unset] [(.int (7 : Int32)), (.ref b1), (.ref b1)])) _
  refine Own.go (fun t k => XS.bipush X8.here hx rfl (hb hby at_41) k) ?_
  show Own.Fin p e below (T8.setTop (mkF m 43 #[.val (.int p1), .val (.int p2), .unset, .unset, .unset, .unset, .unset, .unset] [(.int (12 : Int32)), (.int (7 : Int32)), (.ref b1), (.ref b1)])) _
  refine Own.stI X8 hx hZ e8 Vq8 (hb hby at_43) ⟨by decide, by decide⟩ 7 rfl (Nat.le_of_ble_eq_true rfl) ?_
  intro T9 h9 X9 e9 W9 V9
  have N9 := Fr.snoc X9 N8 ge1
  have Z9 : n0 ≤ h9.size := by rw [W9.size]; exact Z8
  have Vq9 : Arv Z h9 b1 k1 .int (23 : Int32) [(.int (-2147483648 : Int32)), (.int (-1 : Int32)), (.int (0 : Int32)), (.int (8 : Int32)), (.int (9 : Int32)), (.int (10 : Int32)), (.int (11 : Int32)), (.int (12 : Int32)), (.int (0 : Int32)), (.int (0 : Int32)), (.int (0 : Int32)), (.int (0 : Int32)), (.int (0 : Int32)), (.int (0 : Int32)), (.int (0 : Int32)), (.int (0 : Int32)), (.int (0 : Int32)), (.int (0 : Int32)), (.int (0 : Int32)), (.int (0 : Int32)), (.int (0 : Int32)), (.int (0 : Int32)), (.int (0 : Int32))] (.int (0 : Int32)) := V9
  show Own.Fin p e below (T9.setTop (mkF m 44 #[.val (.int p1), .val (.int p2), .unset, .unset, .unset, .unset, .unset, .unset] [(.ref b1)])) _
  refine Own.go (fun t k => XS.dup X9.here hx rfl (hb hby at_44) rfl rfl k) ?_
  show Own.Fin p e below (T9.setTop (mkF m 45 #[.val (.int p1), .val (.int p2), .unset, .unset, .unset, .unset, .unset, .unset] [(.ref b1), (.ref b1)])) _
  refine Own.go (fun t k => XS.bipush X9.here hx rfl (hb hby at_45) k) ?_
  show Own.Fin p e below (T9.setTop (mkF m 47 #[.val (.int p1), .val (.int p2), .unset, .unset, .unset, .unset, .unset, .unset] [(.int (8 : Int32)), (.ref b1), (.ref b1)])) _
  refine Own.go (fun t k => XS.bipush X9.here hx rfl (hb hby at_47) k) ?_
  show Own.Fin p e below (T9.setTop (mkF m 49 #[.val (.int p1), .val (.int p2), .unset, .unset, .unset, .unset, .unset, .unset] [(.int (13 : Int32)), (.int (8 : Int32)), (.ref b1), (.ref b1)])) _
  refine Own.stI X9 hx hZ e9 Vq9 (hb hby at_49) ⟨by decide, by decide⟩ 8 rfl (Nat.le_of_ble_eq_true rfl) ?_
  intro T10 h10 X10 e10 W10 V10
  have N10 := Fr.snoc X10 N9 ge1
  have Z10 : n0 ≤ h10.size := by rw [W10.size]; exact Z9
  have Vq10 : Arv Z h10 b1 k1 .int (23 : Int32) [(.int (-2147483648 : Int32)), (.int (-1 : Int32)), (.int (0 : Int32)), (.int (8 : Int32)), (.int (9 : Int32)), (.int (10 : Int32)), (.int (11 : Int32)), (.int (12 : Int32)), (.int (13 : Int32)), (.int (0 : Int32)), (.int (0 : Int32)), (.int (0 : Int32)), (.int (0 : Int32)), (.int (0 : Int32)), (.int (0 : Int32)), (.int (0 : Int32)), (.int (0 : Int32)), (.int (0 : Int32)), (.int (0 : Int32)), (.int (0 : Int32)), (.int (0 : Int32)), (.int (0 : Int32)), (.int (0 : Int32))] (.int (0 : Int32)) := V10
  show Own.Fin p e below (T10.setTop (mkF m 50 #[.val (.int p1), .val (.int p2), .unset, .unset, .unset, .unset, .unset, .unset] [(.ref b1)])) _
  refine Own.go (fun t k => XS.dup X10.here hx rfl (hb hby at_50) rfl rfl k) ?_
  show Own.Fin p e below (T10.setTop (mkF m 51 #[.val (.int p1), .val (.int p2), .unset, .unset, .unset, .unset, .unset, .unset] [(.ref b1), (.ref b1)])) _
  refine Own.go (fun t k => XS.bipush X10.here hx rfl (hb hby at_51) k) ?_
  show Own.Fin p e below (T10.setTop (mkF m 53 #[.val (.int p1), .val (.int p2), .unset, .unset, .unset, .unset, .unset, .unset] [(.int (9 : Int32)), (.ref b1), (.ref b1)])) _
  refine Own.go (fun t k => XS.bipush X10.here hx rfl (hb hby at_53) k) ?_
  show Own.Fin p e below (T10.setTop (mkF m 55 #[.val (.int p1), .val (.int p2), .unset, .unset, .unset, .unset, .unset, .unset] [(.int (14 : Int32)), (.int (9 : Int32)), (.ref b1), (.ref b1)])) _
  refine Own.stI X10 hx hZ e10 Vq10 (hb hby at_55) ⟨by decide, by decide⟩ 9 rfl (Nat.le_of_ble_eq_true rfl) ?_
  intro T11 h11 X11 e11 W11 V11
  have N11 := Fr.snoc X11 N10 ge1
  have Z11 : n0 ≤ h11.size := by rw [W11.size]; exact Z10
  have Vq11 : Arv Z h11 b1 k1 .int (23 : Int32) [(.int (-2147483648 : Int32)), (.int (-1 : Int32)), (.int (0 : Int32)), (.int (8 : Int32)), (.int (9 : Int32)), (.int (10 : Int32)), (.int (11 : Int32)), (.int (12 : Int32)), (.int (13 : Int32)), (.int (14 : Int32)), (.int (0 : Int32)), (.int (0 : Int32)), (.int (0 : Int32)), (.int (0 : Int32)), (.int (0 : Int32)), (.int (0 : Int32)), (.int (0 : Int32)), (.int (0 : Int32)), (.int (0 : Int32)), (.int (0 : Int32)), (.int (0 : Int32)), (.int (0 : Int32)), (.int (0 : Int32))] (.int (0 : Int32)) := V11
  show Own.Fin p e below (T11.setTop (mkF m 56 #[.val (.int p1), .val (.int p2), .unset, .unset, .unset, .unset, .unset, .unset] [(.ref b1)])) _
  refine Own.go (fun t k => XS.dup X11.here hx rfl (hb hby at_56) rfl rfl k) ?_
  show Own.Fin p e below (T11.setTop (mkF m 57 #[.val (.int p1), .val (.int p2), .unset, .unset, .unset, .unset, .unset, .unset] [(.ref b1), (.ref b1)])) _
  refine Own.go (fun t k => XS.bipush X11.here hx rfl (hb hby at_57) k) ?_
  show Own.Fin p e below (T11.setTop (mkF m 59 #[.val (.int p1), .val (.int p2), .unset, .unset, .unset, .unset, .unset, .unset] [(.int (10 : Int32)), (.ref b1), (.ref b1)])) _
  refine Own.go (fun t k => XS.bipush X11.here hx rfl (hb hby at_59) k) ?_
  show Own.Fin p e below (T11.setTop (mkF m 61 #[.val (.int p1), .val (.int p2), .unset, .unset, .unset, .unset, .unset, .unset] [(.int (31 : Int32)), (.int (10 : Int32)), (.ref b1), (.ref b1)])) _
  refine Own.stI X11 hx hZ e11 Vq11 (hb hby at_61) ⟨by decide, by decide⟩ 10 rfl (Nat.le_of_ble_eq_true rfl) ?_
  intro T12 h12 X12 e12 W12 V12
  have N12 := Fr.snoc X12 N11 ge1
  have Z12 : n0 ≤ h12.size := by rw [W12.size]; exact Z11
  have Vq12 : Arv Z h12 b1 k1 .int (23 : Int32) [(.int (-2147483648 : Int32)), (.int (-1 : Int32)), (.int (0 : Int32)), (.int (8 : Int32)), (.int (9 : Int32)), (.int (10 : Int32)), (.int (11 : Int32)), (.int (12 : Int32)), (.int (13 : Int32)), (.int (14 : Int32)), (.int (31 : Int32)), (.int (0 : Int32)), (.int (0 : Int32)), (.int (0 : Int32)), (.int (0 : Int32)), (.int (0 : Int32)), (.int (0 : Int32)), (.int (0 : Int32)), (.int (0 : Int32)), (.int (0 : Int32)), (.int (0 : Int32)), (.int (0 : Int32)), (.int (0 : Int32))] (.int (0 : Int32)) := V12
  show Own.Fin p e below (T12.setTop (mkF m 62 #[.val (.int p1), .val (.int p2), .unset, .unset, .unset, .unset, .unset, .unset] [(.ref b1)])) _
  refine Own.go (fun t k => XS.dup X12.here hx rfl (hb hby at_62) rfl rfl k) ?_
  show Own.Fin p e below (T12.setTop (mkF m 63 #[.val (.int p1), .val (.int p2), .unset, .unset, .unset, .unset, .unset, .unset] [(.ref b1), (.ref b1)])) _
  refine Own.go (fun t k => XS.bipush X12.here hx rfl (hb hby at_63) k) ?_
  show Own.Fin p e below (T12.setTop (mkF m 65 #[.val (.int p1), .val (.int p2), .unset, .unset, .unset, .unset, .unset, .unset] [(.int (11 : Int32)), (.ref b1), (.ref b1)])) _
  refine Own.go (fun t k => XS.bipush X12.here hx rfl (hb hby at_65) k) ?_
  show Own.Fin p e below (T12.setTop (mkF m 67 #[.val (.int p1), .val (.int p2), .unset, .unset, .unset, .unset, .unset, .unset] [(.int (32 : Int32)), (.int (11 : Int32)), (.ref b1), (.ref b1)])) _
  refine Own.stI X12 hx hZ e12 Vq12 (hb hby at_67) ⟨by decide, by decide⟩ 11 rfl (Nat.le_of_ble_eq_true rfl) ?_
  intro T13 h13 X13 e13 W13 V13
  have N13 := Fr.snoc X13 N12 ge1
  have Z13 : n0 ≤ h13.size := by rw [W13.size]; exact Z12
  have Vq13 : Arv Z h13 b1 k1 .int (23 : Int32) [(.int (-2147483648 : Int32)), (.int (-1 : Int32)), (.int (0 : Int32)), (.int (8 : Int32)), (.int (9 : Int32)), (.int (10 : Int32)), (.int (11 : Int32)), (.int (12 : Int32)), (.int (13 : Int32)), (.int (14 : Int32)), (.int (31 : Int32)), (.int (32 : Int32)), (.int (0 : Int32)), (.int (0 : Int32)), (.int (0 : Int32)), (.int (0 : Int32)), (.int (0 : Int32)), (.int (0 : Int32)), (.int (0 : Int32)), (.int (0 : Int32)), (.int (0 : Int32)), (.int (0 : Int32)), (.int (0 : Int32))] (.int (0 : Int32)) := V13
  show Own.Fin p e below (T13.setTop (mkF m 68 #[.val (.int p1), .val (.int p2), .unset, .unset, .unset, .unset, .unset, .unset] [(.ref b1)])) _
  refine Own.go (fun t k => XS.dup X13.here hx rfl (hb hby at_68) rfl rfl k) ?_
  show Own.Fin p e below (T13.setTop (mkF m 69 #[.val (.int p1), .val (.int p2), .unset, .unset, .unset, .unset, .unset, .unset] [(.ref b1), (.ref b1)])) _
  refine Own.go (fun t k => XS.bipush X13.here hx rfl (hb hby at_69) k) ?_
  show Own.Fin p e below (T13.setTop (mkF m 71 #[.val (.int p1), .val (.int p2), .unset, .unset, .unset, .unset, .unset, .unset] [(.int (12 : Int32)), (.ref b1), (.ref b1)])) _
  refine Own.go (fun t k => X13.ldcInt hx hown (mvT hZ (hw _ (List.mem_of_getElem? (i := 2) rfl))) (g := (mkF m 71 #[.val (.int p1), .val (.int p2), .unset, .unset, .unset, .unset, .unset, .unset] [(.int (12 : Int32)), (.ref b1), (.ref b1)])) rfl (hb hby at_71) _ k) ?_
  show Own.Fin p e below (T13.setTop (mkF m 73 #[.val (.int p1), .val (.int p2), .unset, .unset, .unset, .unset, .unset, .unset] [(.int (55295 : Int32)), (.int (12 : Int32)), (.ref b1), (.ref b1)])) _
  refine Own.stI X13 hx hZ e13 Vq13 (hb hby at_73) ⟨by decide, by decide⟩ 12 rfl (Nat.le_of_ble_eq_true rfl) ?_
  intro T14 h14 X14 e14 W14 V14
  have N14 := Fr.snoc X14 N13 ge1
  have Z14 : n0 ≤ h14.size := by rw [W14.size]; exact Z13
  have Vq14 : Arv Z h14 b1 k1 .int (23 : Int32) [(.int (-2147483648 : Int32)), (.int (-1 : Int32)), (.int (0 : Int32)), (.int (8 : Int32)), (.int (9 : Int32)), (.int (10 : Int32)), (.int (11 : Int32)), (.int (12 : Int32)), (.int (13 : Int32)), (.int (14 : Int32)), (.int (31 : Int32)), (.int (32 : Int32)), (.int (55295 : Int32)), (.int (0 : Int32)), (.int (0 : Int32)), (.int (0 : Int32)), (.int (0 : Int32)), (.int (0 : Int32)), (.int (0 : Int32)), (.int (0 : Int32)), (.int (0 : Int32)), (.int (0 : Int32)), (.int (0 : Int32))] (.int (0 : Int32)) := V14
  show Own.Fin p e below (T14.setTop (mkF m 74 #[.val (.int p1), .val (.int p2), .unset, .unset, .unset, .unset, .unset, .unset] [(.ref b1)])) _
  refine Own.go (fun t k => XS.dup X14.here hx rfl (hb hby at_74) rfl rfl k) ?_
  show Own.Fin p e below (T14.setTop (mkF m 75 #[.val (.int p1), .val (.int p2), .unset, .unset, .unset, .unset, .unset, .unset] [(.ref b1), (.ref b1)])) _
  refine Own.go (fun t k => XS.bipush X14.here hx rfl (hb hby at_75) k) ?_
  show Own.Fin p e below (T14.setTop (mkF m 77 #[.val (.int p1), .val (.int p2), .unset, .unset, .unset, .unset, .unset, .unset] [(.int (13 : Int32)), (.ref b1), (.ref b1)])) _
  refine Own.go (fun t k => X14.ldcInt hx hown (mvT hZ (hw _ (List.mem_of_getElem? (i := 3) rfl))) (g := (mkF m 77 #[.val (.int p1), .val (.int p2), .unset, .unset, .unset, .unset, .unset, .unset] [(.int (13 : Int32)), (.ref b1), (.ref b1)])) rfl (hb hby at_77) _ k) ?_
  show Own.Fin p e below (T14.setTop (mkF m 79 #[.val (.int p1), .val (.int p2), .unset, .unset, .unset, .unset, .unset, .unset] [(.int (55296 : Int32)), (.int (13 : Int32)), (.ref b1), (.ref b1)])) _
  refine Own.stI X14 hx hZ e14 Vq14 (hb hby at_79) ⟨by decide, by decide⟩ 13 rfl (Nat.le_of_ble_eq_true rfl) ?_
  intro T15 h15 X15 e15 W15 V15
  have N15 := Fr.snoc X15 N14 ge1
  have Z15 : n0 ≤ h15.size := by rw [W15.size]; exact Z14
  have Vq15 : Arv Z h15 b1 k1 .int (23 : Int32) [(.int (-2147483648 : Int32)), (.int (-1 : Int32)), (.int (0 : Int32)), (.int (8 : Int32)), (.int (9 : Int32)), (.int (10 : Int32)), (.int (11 : Int32)), (.int (12 : Int32)), (.int (13 : Int32)), (.int (14 : Int32)), (.int (31 : Int32)), (.int (32 : Int32)), (.int (55295 : Int32)), (.int (55296 : Int32)), (.int (0 : Int32)), (.int (0 : Int32)), (.int (0 : Int32)), (.int (0 : Int32)), (.int (0 : Int32)), (.int (0 : Int32)), (.int (0 : Int32)), (.int (0 : Int32)), (.int (0 : Int32))] (.int (0 : Int32)) := V15
  show Own.Fin p e below (T15.setTop (mkF m 80 #[.val (.int p1), .val (.int p2), .unset, .unset, .unset, .unset, .unset, .unset] [(.ref b1)])) _
  refine Own.go (fun t k => XS.dup X15.here hx rfl (hb hby at_80) rfl rfl k) ?_
  show Own.Fin p e below (T15.setTop (mkF m 81 #[.val (.int p1), .val (.int p2), .unset, .unset, .unset, .unset, .unset, .unset] [(.ref b1), (.ref b1)])) _
  refine Own.go (fun t k => XS.bipush X15.here hx rfl (hb hby at_81) k) ?_
  show Own.Fin p e below (T15.setTop (mkF m 83 #[.val (.int p1), .val (.int p2), .unset, .unset, .unset, .unset, .unset, .unset] [(.int (14 : Int32)), (.ref b1), (.ref b1)])) _
  refine Own.go (fun t k => X15.ldcInt hx hown (mvT hZ (hw _ (List.mem_of_getElem? (i := 4) rfl))) (g := (mkF m 83 #[.val (.int p1), .val (.int p2), .unset, .unset, .unset, .unset, .unset, .unset] [(.int (14 : Int32)), (.ref b1), (.ref b1)])) rfl (hb hby at_83) _ k) ?_
  show Own.Fin p e below (T15.setTop (mkF m 85 #[.val (.int p1), .val (.int p2), .unset, .unset, .unset, .unset, .unset, .unset] [(.int (57343 : Int32)), (.int (14 : Int32)), (.ref b1), (.ref b1)])) _
  refine Own.stI X15 hx hZ e15 Vq15 (hb hby at_85) ⟨by decide, by decide⟩ 14 rfl (Nat.le_of_ble_eq_true rfl) ?_
  intro T16 h16 X16 e16 W16 V16
  have N16 := Fr.snoc X16 N15 ge1
  have Z16 : n0 ≤ h16.size := by rw [W16.size]; exact Z15
  have Vq16 : Arv Z h16 b1 k1 .int (23 : Int32) [(.int (-2147483648 : Int32)), (.int (-1 : Int32)), (.int (0 : Int32)), (.int (8 : Int32)), (.int (9 : Int32)), (.int (10 : Int32)), (.int (11 : Int32)), (.int (12 : Int32)), (.int (13 : Int32)), (.int (14 : Int32)), (.int (31 : Int32)), (.int (32 : Int32)), (.int (55295 : Int32)), (.int (55296 : Int32)), (.int (57343 : Int32)), (.int (0 : Int32)), (.int (0 : Int32)), (.int (0 : Int32)), (.int (0 : Int32)), (.int (0 : Int32)), (.int (0 : Int32)), (.int (0 : Int32)), (.int (0 : Int32))] (.int (0 : Int32)) := V16
  show Own.Fin p e below (T16.setTop (mkF m 86 #[.val (.int p1), .val (.int p2), .unset, .unset, .unset, .unset, .unset, .unset] [(.ref b1)])) _
  refine Own.go (fun t k => XS.dup X16.here hx rfl (hb hby at_86) rfl rfl k) ?_
  show Own.Fin p e below (T16.setTop (mkF m 87 #[.val (.int p1), .val (.int p2), .unset, .unset, .unset, .unset, .unset, .unset] [(.ref b1), (.ref b1)])) _
  refine Own.go (fun t k => XS.bipush X16.here hx rfl (hb hby at_87) k) ?_
  show Own.Fin p e below (T16.setTop (mkF m 89 #[.val (.int p1), .val (.int p2), .unset, .unset, .unset, .unset, .unset, .unset] [(.int (15 : Int32)), (.ref b1), (.ref b1)])) _
  refine Own.go (fun t k => X16.ldcInt hx hown (mvT hZ (hw _ (List.mem_of_getElem? (i := 5) rfl))) (g := (mkF m 89 #[.val (.int p1), .val (.int p2), .unset, .unset, .unset, .unset, .unset, .unset] [(.int (15 : Int32)), (.ref b1), (.ref b1)])) rfl (hb hby at_89) _ k) ?_
  show Own.Fin p e below (T16.setTop (mkF m 91 #[.val (.int p1), .val (.int p2), .unset, .unset, .unset, .unset, .unset, .unset] [(.int (57344 : Int32)), (.int (15 : Int32)), (.ref b1), (.ref b1)])) _
  refine Own.stI X16 hx hZ e16 Vq16 (hb hby at_91) ⟨by decide, by decide⟩ 15 rfl (Nat.le_of_ble_eq_true rfl) ?_
  intro T17 h17 X17 e17 W17 V17
  have N17 := Fr.snoc X17 N16 ge1
  have Z17 : n0 ≤ h17.size := by rw [W17.size]; exact Z16
  have Vq17 : Arv Z h17 b1 k1 .int (23 : Int32) [(.int (-2147483648 : Int32)), (.int (-1 : Int32)), (.int (0 : Int32)), (.int (8 : Int32)), (.int (9 : Int32)), (.int (10 : Int32)), (.int (11 : Int32)), (.int (12 : Int32)), (.int (13 : Int32)), (.int (14 : Int32)), (.int (31 : Int32)), (.int (32 : Int32)), (.int (55295 : Int32)), (.int (55296 : Int32)), (.int (57343 : Int32)), (.int (57344 : Int32)), (.int (0 : Int32)), (.int (0 : Int32)), (.int (0 : Int32)), (.int (0 : Int32)), (.int (0 : Int32)), (.int (0 : Int32)), (.int (0 : Int32))] (.int (0 : Int32)) := V17
  show Own.Fin p e below (T17.setTop (mkF m 92 #[.val (.int p1), .val (.int p2), .unset, .unset, .unset, .unset, .unset, .unset] [(.ref b1)])) _
  refine Own.go (fun t k => XS.dup X17.here hx rfl (hb hby at_92) rfl rfl k) ?_
  show Own.Fin p e below (T17.setTop (mkF m 93 #[.val (.int p1), .val (.int p2), .unset, .unset, .unset, .unset, .unset, .unset] [(.ref b1), (.ref b1)])) _
  refine Own.go (fun t k => XS.bipush X17.here hx rfl (hb hby at_93) k) ?_
  show Own.Fin p e below (T17.setTop (mkF m 95 #[.val (.int p1), .val (.int p2), .unset, .unset, .unset, .unset, .unset, .unset] [(.int (16 : Int32)), (.ref b1), (.ref b1)])) _
  refine Own.go (fun t k => X17.ldcInt hx hown (mvT hZ (hw _ (List.mem_of_getElem? (i := 6) rfl))) (g := (mkF m 95 #[.val (.int p1), .val (.int p2), .unset, .unset, .unset, .unset, .unset, .unset] [(.int (16 : Int32)), (.ref b1), (.ref b1)])) rfl (hb hby at_95) _ k) ?_
  show Own.Fin p e below (T17.setTop (mkF m 97 #[.val (.int p1), .val (.int p2), .unset, .unset, .unset, .unset, .unset, .unset] [(.int (65533 : Int32)), (.int (16 : Int32)), (.ref b1), (.ref b1)])) _
  refine Own.stI X17 hx hZ e17 Vq17 (hb hby at_97) ⟨by decide, by decide⟩ 16 rfl (Nat.le_of_ble_eq_true rfl) ?_
  intro T18 h18 X18 e18 W18 V18
  have N18 := Fr.snoc X18 N17 ge1
  have Z18 : n0 ≤ h18.size := by rw [W18.size]; exact Z17
  have Vq18 : Arv Z h18 b1 k1 .int (23 : Int32) [(.int (-2147483648 : Int32)), (.int (-1 : Int32)), (.int (0 : Int32)), (.int (8 : Int32)), (.int (9 : Int32)), (.int (10 : Int32)), (.int (11 : Int32)), (.int (12 : Int32)), (.int (13 : Int32)), (.int (14 : Int32)), (.int (31 : Int32)), (.int (32 : Int32)), (.int (55295 : Int32)), (.int (55296 : Int32)), (.int (57343 : Int32)), (.int (57344 : Int32)), (.int (65533 : Int32)), (.int (0 : Int32)), (.int (0 : Int32)), (.int (0 : Int32)), (.int (0 : Int32)), (.int (0 : Int32)), (.int (0 : Int32))] (.int (0 : Int32)) := V18
  show Own.Fin p e below (T18.setTop (mkF m 98 #[.val (.int p1), .val (.int p2), .unset, .unset, .unset, .unset, .unset, .unset] [(.ref b1)])) _
  refine Own.go (fun t k => XS.dup X18.here hx rfl (hb hby at_98) rfl rfl k) ?_
  show Own.Fin p e below (T18.setTop (mkF m 99 #[.val (.int p1), .val (.int p2), .unset, .unset, .unset, .unset, .unset, .unset] [(.ref b1), (.ref b1)])) _
  refine Own.go (fun t k => XS.bipush X18.here hx rfl (hb hby at_99) k) ?_
  show Own.Fin p e below (T18.setTop (mkF m 101 #[.val (.int p1), .val (.int p2), .unset, .unset, .unset, .unset, .unset, .unset] [(.int (17 : Int32)), (.ref b1), (.ref b1)])) _
  refine Own.go (fun t k => X18.ldcInt hx hown (mvT hZ (hw _ (List.mem_of_getElem? (i := 7) rfl))) (g := (mkF m 101 #[.val (.int p1), .val (.int p2), .unset, .unset, .unset, .unset, .unset, .unset] [(.int (17 : Int32)), (.ref b1), (.ref b1)])) rfl (hb hby at_101) _ k) ?_
  show Own.Fin p e below (T18.setTop (mkF m 103 #[.val (.int p1), .val (.int p2), .unset, .unset, .unset, .unset, .unset, .unset] [(.int (65534 : Int32)), (.int (17 : Int32)), (.ref b1), (.ref b1)])) _
  refine Own.stI X18 hx hZ e18 Vq18 (hb hby at_103) ⟨by decide, by decide⟩ 17 rfl (Nat.le_of_ble_eq_true rfl) ?_
  intro T19 h19 X19 e19 W19 V19
  have N19 := Fr.snoc X19 N18 ge1
  have Z19 : n0 ≤ h19.size := by rw [W19.size]; exact Z18
  have Vq19 : Arv Z h19 b1 k1 .int (23 : Int32) [(.int (-2147483648 : Int32)), (.int (-1 : Int32)), (.int (0 : Int32)), (.int (8 : Int32)), (.int (9 : Int32)), (.int (10 : Int32)), (.int (11 : Int32)), (.int (12 : Int32)), (.int (13 : Int32)), (.int (14 : Int32)), (.int (31 : Int32)), (.int (32 : Int32)), (.int (55295 : Int32)), (.int (55296 : Int32)), (.int (57343 : Int32)), (.int (57344 : Int32)), (.int (65533 : Int32)), (.int (65534 : Int32)), (.int (0 : Int32)), (.int (0 : Int32)), (.int (0 : Int32)), (.int (0 : Int32)), (.int (0 : Int32))] (.int (0 : Int32)) := V19
  show Own.Fin p e below (T19.setTop (mkF m 104 #[.val (.int p1), .val (.int p2), .unset, .unset, .unset, .unset, .unset, .unset] [(.ref b1)])) _
  refine Own.go (fun t k => XS.dup X19.here hx rfl (hb hby at_104) rfl rfl k) ?_
  show Own.Fin p e below (T19.setTop (mkF m 105 #[.val (.int p1), .val (.int p2), .unset, .unset, .unset, .unset, .unset, .unset] [(.ref b1), (.ref b1)])) _
  refine Own.go (fun t k => XS.bipush X19.here hx rfl (hb hby at_105) k) ?_
  show Own.Fin p e below (T19.setTop (mkF m 107 #[.val (.int p1), .val (.int p2), .unset, .unset, .unset, .unset, .unset, .unset] [(.int (18 : Int32)), (.ref b1), (.ref b1)])) _
  refine Own.go (fun t k => X19.ldcInt hx hown (mvT hZ (hw _ (List.mem_of_getElem? (i := 8) rfl))) (g := (mkF m 107 #[.val (.int p1), .val (.int p2), .unset, .unset, .unset, .unset, .unset, .unset] [(.int (18 : Int32)), (.ref b1), (.ref b1)])) rfl (hb hby at_107) _ k) ?_
  show Own.Fin p e below (T19.setTop (mkF m 109 #[.val (.int p1), .val (.int p2), .unset, .unset, .unset, .unset, .unset, .unset] [(.int (65535 : Int32)), (.int (18 : Int32)), (.ref b1), (.ref b1)])) _
  refine Own.stI X19 hx hZ e19 Vq19 (hb hby at_109) ⟨by decide, by decide⟩ 18 rfl (Nat.le_of_ble_eq_true rfl) ?_
  intro T20 h20 X20 e20 W20 V20
  have N20 := Fr.snoc X20 N19 ge1
  have Z20 : n0 ≤ h20.size := by rw [W20.size]; exact Z19
  have Vq20 : Arv Z h20 b1 k1 .int (23 : Int32) [(.int (-2147483648 : Int32)), (.int (-1 : Int32)), (.int (0 : Int32)), (.int (8 : Int32)), (.int (9 : Int32)), (.int (10 : Int32)), (.int (11 : Int32)), (.int (12 : Int32)), (.int (13 : Int32)), (.int (14 : Int32)), (.int (31 : Int32)), (.int (32 : Int32)), (.int (55295 : Int32)), (.int (55296 : Int32)), (.int (57343 : Int32)), (.int (57344 : Int32)), (.int (65533 : Int32)), (.int (65534 : Int32)), (.int (65535 : Int32)), (.int (0 : Int32)), (.int (0 : Int32)), (.int (0 : Int32)), (.int (0 : Int32))] (.int (0 : Int32)) := V20
  show Own.Fin p e below (T20.setTop (mkF m 110 #[.val (.int p1), .val (.int p2), .unset, .unset, .unset, .unset, .unset, .unset] [(.ref b1)])) _
  refine Own.go (fun t k => XS.dup X20.here hx rfl (hb hby at_110) rfl rfl k) ?_
  show Own.Fin p e below (T20.setTop (mkF m 111 #[.val (.int p1), .val (.int p2), .unset, .unset, .unset, .unset, .unset, .unset] [(.ref b1), (.ref b1)])) _
  refine Own.go (fun t k => XS.bipush X20.here hx rfl (hb hby at_111) k) ?_
  show Own.Fin p e below (T20.setTop (mkF m 113 #[.val (.int p1), .val (.int p2), .unset, .unset, .unset, .unset, .unset, .unset] [(.int (19 : Int32)), (.ref b1), (.ref b1)])) _
  refine Own.go (fun t k => X20.ldcInt hx hown (mvT hZ (hw _ (List.mem_of_getElem? (i := 9) rfl))) (g := (mkF m 113 #[.val (.int p1), .val (.int p2), .unset, .unset, .unset, .unset, .unset, .unset] [(.int (19 : Int32)), (.ref b1), (.ref b1)])) rfl (hb hby at_113) _ k) ?_
  show Own.Fin p e below (T20.setTop (mkF m 115 #[.val (.int p1), .val (.int p2), .unset, .unset, .unset, .unset, .unset, .unset] [(.int (65536 : Int32)), (.int (19 : Int32)), (.ref b1), (.ref b1)])) _
  refine Own.stI X20 hx hZ e20 Vq20 (hb hby at_115) ⟨by decide, by decide⟩ 19 rfl (Nat.le_of_ble_eq_true rfl) ?_
  intro T21 h21 X21 e21 W21 V21
  have N21 := Fr.snoc X21 N20 ge1
  have Z21 : n0 ≤ h21.size := by rw [W21.size]; exact Z20
  have Vq21 : Arv Z h21 b1 k1 .int (23 : Int32) [(.int (-2147483648 : Int32)), (.int (-1 : Int32)), (.int (0 : Int32)), (.int (8 : Int32)), (.int (9 : Int32)), (.int (10 : Int32)), (.int (11 : Int32)), (.int (12 : Int32)), (.int (13 : Int32)), (.int (14 : Int32)), (.int (31 : Int32)), (.int (32 : Int32)), (.int (55295 : Int32)), (.int (55296 : Int32)), (.int (57343 : Int32)), (.int (57344 : Int32)), (.int (65533 : Int32)), (.int (65534 : Int32)), (.int (65535 : Int32)), (.int (65536 : Int32)), (.int (0 : Int32)), (.int (0 : Int32)), (.int (0 : Int32))] (.int (0 : Int32)) := V21
  show Own.Fin p e below (T21.setTop (mkF m 116 #[.val (.int p1), .val (.int p2), .unset, .unset, .unset, .unset, .unset, .unset] [(.ref b1)])) _
  refine Own.go (fun t k => XS.dup X21.here hx rfl (hb hby at_116) rfl rfl k) ?_
  show Own.Fin p e below (T21.setTop (mkF m 117 #[.val (.int p1), .val (.int p2), .unset, .unset, .unset, .unset, .unset, .unset] [(.ref b1), (.ref b1)])) _
  refine Own.go (fun t k => XS.bipush X21.here hx rfl (hb hby at_117) k) ?_
  show Own.Fin p e below (T21.setTop (mkF m 119 #[.val (.int p1), .val (.int p2), .unset, .unset, .unset, .unset, .unset, .unset] [(.int (20 : Int32)), (.ref b1), (.ref b1)])) _
  refine Own.go (fun t k => X21.ldcInt hx hown (mvT hZ (hw _ (List.mem_of_getElem? (i := 10) rfl))) (g := (mkF m 119 #[.val (.int p1), .val (.int p2), .unset, .unset, .unset, .unset, .unset, .unset] [(.int (20 : Int32)), (.ref b1), (.ref b1)])) rfl (hb hby at_119) _ k) ?_
  show Own.Fin p e below (T21.setTop (mkF m 121 #[.val (.int p1), .val (.int p2), .unset, .unset, .unset, .unset, .unset, .unset] [(.int (1114111 : Int32)), (.int (20 : Int32)), (.ref b1), (.ref b1)])) _
  refine Own.stI X21 hx hZ e21 Vq21 (hb hby at_121) ⟨by decide, by decide⟩ 20 rfl (Nat.le_of_ble_eq_true rfl) ?_
  intro T22 h22 X22 e22 W22 V22
  have N22 := Fr.snoc X22 N21 ge1
  have Z22 : n0 ≤ h22.size := by rw [W22.size]; exact Z21
  have Vq22 : Arv Z h22 b1 k1 .int (23 : Int32) [(.int (-2147483648 : Int32)), (.int (-1 : Int32)), (.int (0 : Int32)), (.int (8 : Int32)), (.int (9 : Int32)), (.int (10 : Int32)), (.int (11 : Int32)), (.int (12 : Int32)), (.int (13 : Int32)), (.int (14 : Int32)), (.int (31 : Int32)), (.int (32 : Int32)), (.int (55295 : Int32)), (.int (55296 : Int32)), (.int (57343 : Int32)), (.int (57344 : Int32)), (.int (65533 : Int32)), (.int (65534 : Int32)), (.int (65535 : Int32)), (.int (65536 : Int32)), (.int (1114111 : Int32)), (.int (0 : Int32)), (.int (0 : Int32))] (.int (0 : Int32)) := V22
  show Own.Fin p e below (T22.setTop (mkF m 122 #[.val (.int p1), .val (.int p2), .unset, .unset, .unset, .unset, .unset, .unset] [(.ref b1)])) _
  refine Own.go (fun t k => XS.dup X22.here hx rfl (hb hby at_122) rfl rfl k) ?_
  show Own.Fin p e below (T22.setTop (mkF m 123 #[.val (.int p1), .val (.int p2), .unset, .unset, .unset, .unset, .unset, .unset] [(.ref b1), (.ref b1)])) _
  refine Own.go (fun t k => XS.bipush X22.here hx rfl (hb hby at_123) k) ?_
  show Own.Fin p e below (T22.setTop (mkF m 125 #[.val (.int p1), .val (.int p2), .unset, .unset, .unset, .unset, .unset, .unset] [(.int (21 : Int32)), (.ref b1), (.ref b1)])) _
  refine Own.go (fun t k => X22.ldcInt hx hown (mvT hZ (hw _ (List.mem_of_getElem? (i := 11) rfl))) (g := (mkF m 125 #[.val (.int p1), .val (.int p2), .unset, .unset, .unset, .unset, .unset, .unset] [(.int (21 : Int32)), (.ref b1), (.ref b1)])) rfl (hb hby at_125) _ k) ?_
  show Own.Fin p e below (T22.setTop (mkF m 127 #[.val (.int p1), .val (.int p2), .unset, .unset, .unset, .unset, .unset, .unset] [(.int (1114112 : Int32)), (.int (21 : Int32)), (.ref b1), (.ref b1)])) _
  refine Own.stI X22 hx hZ e22 Vq22 (hb hby at_127) ⟨by decide, by decide⟩ 21 rfl (Nat.le_of_ble_eq_true rfl) ?_
  intro T23 h23 X23 e23 W23 V23
  have N23 := Fr.snoc X23 N22 ge1
  have Z23 : n0 ≤ h23.size := by rw [W23.size]; exact Z22
  have Vq23 : Arv Z h23 b1 k1 .int (23 : Int32) [(.int (-2147483648 : Int32)), (.int (-1 : Int32)), (.int (0 : Int32)), (.int (8 : Int32)), (.int (9 : Int32)), (.int (10 : Int32)), (.int (11 : Int32)), (.int (12 : Int32)), (.int (13 : Int32)), (.int (14 : Int32)), (.int (31 : Int32)), (.int (32 : Int32)), (.int (55295 : Int32)), (.int (55296 : Int32)), (.int (57343 : Int32)), (.int (57344 : Int32)), (.int (65533 : Int32)), (.int (65534 : Int32)), (.int (65535 : Int32)), (.int (65536 : Int32)), (.int (1114111 : Int32)), (.int (1114112 : Int32)), (.int (0 : Int32))] (.int (0 : Int32)) := V23
  show Own.Fin p e below (T23.setTop (mkF m 128 #[.val (.int p1), .val (.int p2), .unset, .unset, .unset, .unset, .unset, .unset] [(.ref b1)])) _
  refine Own.go (fun t k => XS.dup X23.here hx rfl (hb hby at_128) rfl rfl k) ?_
  show Own.Fin p e below (T23.setTop (mkF m 129 #[.val (.int p1), .val (.int p2), .unset, .unset, .unset, .unset, .unset, .unset] [(.ref b1), (.ref b1)])) _
  refine Own.go (fun t k => XS.bipush X23.here hx rfl (hb hby at_129) k) ?_
  show Own.Fin p e below (T23.setTop (mkF m 131 #[.val (.int p1), .val (.int p2), .unset, .unset, .unset, .unset, .unset, .unset] [(.int (22 : Int32)), (.ref b1), (.ref b1)])) _
  refine Own.go (fun t k => X23.ldcInt hx hown (mvT hZ (hw _ (List.mem_of_getElem? (i := 12) rfl))) (g := (mkF m 131 #[.val (.int p1), .val (.int p2), .unset, .unset, .unset, .unset, .unset, .unset] [(.int (22 : Int32)), (.ref b1), (.ref b1)])) rfl (hb hby at_131) _ k) ?_
  show Own.Fin p e below (T23.setTop (mkF m 133 #[.val (.int p1), .val (.int p2), .unset, .unset, .unset, .unset, .unset, .unset] [(.int (2147483647 : Int32)), (.int (22 : Int32)), (.ref b1), (.ref b1)])) _
  refine Own.stI X23 hx hZ e23 Vq23 (hb hby at_133) ⟨by decide, by decide⟩ 22 rfl (Nat.le_of_ble_eq_true rfl) ?_
  intro T24 h24 X24 e24 W24 V24
  have N24 := Fr.snoc X24 N23 ge1
  have Z24 : n0 ≤ h24.size := by rw [W24.size]; exact Z23
  have Vq24 : Arv Z h24 b1 k1 .int (23 : Int32) [(.int (-2147483648 : Int32)), (.int (-1 : Int32)), (.int (0 : Int32)), (.int (8 : Int32)), (.int (9 : Int32)), (.int (10 : Int32)), (.int (11 : Int32)), (.int (12 : Int32)), (.int (13 : Int32)), (.int (14 : Int32)), (.int (31 : Int32)), (.int (32 : Int32)), (.int (55295 : Int32)), (.int (55296 : Int32)), (.int (57343 : Int32)), (.int (57344 : Int32)), (.int (65533 : Int32)), (.int (65534 : Int32)), (.int (65535 : Int32)), (.int (65536 : Int32)), (.int (1114111 : Int32)), (.int (1114112 : Int32)), (.int (2147483647 : Int32))] (.int (0 : Int32)) := V24
  show Own.Fin p e below (T24.setTop (mkF m 134 #[.val (.int p1), .val (.int p2), .unset, .unset, .unset, .unset, .unset, .unset] [(.ref b1)])) _
  refine Own.go (fun t k => XS.astoreN X24.here hx rfl (hb hby at_134) rfl rfl (l' := #[.val (.int p1), .val (.int p2), .val (.ref b1), .unset, .unset, .unset, .unset, .unset]) rfl k) ?_
  show Own.Fin p e below (T24.setTop (mkF m 135 #[.val (.int p1), .val (.int p2), .val (.ref b1), .unset, .unset, .unset, .unset, .unset] [])) _
  refine Own.go (fun t k => XS.aloadN X24.here hx rfl (hb hby at_135) rfl rfl k) ?_
  show Own.Fin p e below (T24.setTop (mkF m 136 #[.val (.int p1), .val (.int p2), .val (.ref b1), .unset, .unset, .unset, .unset, .unset] [(.ref b1)])) _
  refine Own.go (fun t k => XS.iloadN X24.here hx rfl (hb hby at_136) rfl k) ?_
  show Own.Fin p e below (T24.setTop (mkF m 137 #[.val (.int p1), .val (.int p2), .val (.ref b1), .unset, .unset, .unset, .unset, .unset] [(.int p2), (.ref b1)])) _
  refine Own.go (fun t k => X24.ldcInt hx hown (mvT hZ (hw _ (List.mem_of_getElem? (i := 12) rfl))) (g := (mkF m 137 #[.val (.int p1), .val (.int p2), .val (.ref b1), .unset, .unset, .unset, .unset, .unset] [(.int p2), (.ref b1)])) rfl (hb hby at_137) _ k) ?_
  show Own.Fin p e below (T24.setTop (mkF m 139 #[.val (.int p1), .val (.int p2), .val (.ref b1), .unset, .unset, .unset, .unset, .unset] [(.int (2147483647 : Int32)), (.int p2), (.ref b1)])) _
  refine Own.go (fun t k => XS.iand X24.here hx rfl (hb hby at_139) rfl k) ?_
  show Own.Fin p e below (T24.setTop (mkF m 140 #[.val (.int p1), .val (.int p2), .val (.ref b1), .unset, .unset, .unset, .unset, .unset] [(.int (p2 &&& (2147483647 : Int32))), (.ref b1)])) _
  refine Own.go (fun t k => XS.aloadN X24.here hx rfl (hb hby at_140) rfl rfl k) ?_
  show Own.Fin p e below (T24.setTop (mkF m 141 #[.val (.int p1), .val (.int p2), .val (.ref b1), .unset, .unset, .unset, .unset, .unset] [(.ref b1), (.int (p2 &&& (2147483647 : Int32))), (.ref b1)])) _
  refine Own.alen X24 hx hZ e24 Vq24 (hb hby at_141) ?_
  show Own.Fin p e below (T24.setTop (mkF m 142 #[.val (.int p1), .val (.int p2), .val (.ref b1), .unset, .unset, .unset, .unset, .unset] [(.int (23 : Int32)), (.int (p2 &&& (2147483647 : Int32))), (.ref b1)])) _
  refine Own.go (fun t k => XS.irem X24.here hx rfl (hb hby at_142) rfl (by decide) k) ?_
  show Own.Fin p e below (T24.setTop (mkF m 143 #[.val (.int p1), .val (.int p2), .val (.ref b1), .unset, .unset, .unset, .unset, .unset] [(.int ((p2 &&& (2147483647 : Int32)) - ((p2 &&& (2147483647 : Int32)) / (23 : Int32)) * (23 : Int32))), (.ref b1)])) _
  refine Own.ldI X24 hx hZ e24 Vq24 (hb hby at_143) (own_idx _) ?_
  intro y25 hy25
  show Own.Fin p e below (T24.setTop (mkF m 144 #[.val (.int p1), .val (.int p2), .val (.ref b1), .unset, .unset, .unset, .unset, .unset] [(.int y25)])) _
  refine Own.go (fun t k => XS.istoreN X24.here hx rfl (hb hby at_144) rfl (l' := #[.val (.int p1), .val (.int p2), .val (.ref b1), .val (.int y25), .unset, .unset, .unset, .unset]) rfl k) ?_
  show Own.Fin p e below (T24.setTop (mkF m 145 #[.val (.int p1), .val (.int p2), .val (.ref b1), .val (.int y25), .unset, .unset, .unset, .unset] [])) _
  refine Own.go (fun t k => XS.iloadN X24.here hx rfl (hb hby at_145) rfl k) ?_
  show Own.Fin p e below (T24.setTop (mkF m 146 #[.val (.int p1), .val (.int p2), .val (.ref b1), .val (.int y25), .unset, .unset, .unset, .unset] [(.int p1)])) _
  refine Own.cS X24 hx hZ hown (hw _ (List.mem_of_getElem? (i := 13) rfl)) (hw _ (List.mem_of_getElem? (i := 14) rfl)) (hw _ (List.mem_of_getElem? (i := 15) rfl)) (hw _ (List.mem_of_getElem? (i := 16) rfl)) (by decide) (rm1 l Z a0 hw [] p1 h24 n0 Z24 ) (by decide) (W := 0) (by decide) (argsL := [(.int p1)]) (rest := []) (by rw [hml]; rfl) (lenOf pd_0 rfl) rfl (Nat.le_of_eq rfl) (hb hby at_146) e24 (by decide) (by decide) ?_
  intro T26 L26 v26 X26 hQ26
  obtain ⟨rfl, N26q, e26⟩ := hQ26
  have N26 := Fr.app N24 N26q
  show Own.Fin p e below (T26.setTop (mkF m 149 #[.val (.int p1), .val (.int p2), .val (.ref b1), .val (.int y25), .unset, .unset, .unset, .unset] [(.int (F_allowed p1))])) _
  refine Own.go (fun t k => XS.iloadN X26.here hx rfl (hb hby at_149) rfl k) ?_
  show Own.Fin p e below (T26.setTop (mkF m 150 #[.val (.int p1), .val (.int p2), .val (.ref b1), .val (.int y25), .unset, .unset, .unset, .unset] [(.int p1), (.int (F_allowed p1))])) _
  refine Own.cS X26 hx hZ hown (hw _ (List.mem_of_getElem? (i := 19) rfl)) (hw _ (List.mem_of_getElem? (i := 20) rfl)) (hw _ (List.mem_of_getElem? (i := 21) rfl)) (hw _ (List.mem_of_getElem? (i := 22) rfl)) (by decide) (rm2 l Z a0 hw [] p1 h24 n0 Z24 ) (by decide) (W := 1) (by decide) (argsL := [(.int p1)]) (rest := [(.int (F_allowed p1))]) (by rw [hml]; rfl) (lenOf pd_0 rfl) rfl (Nat.le_of_eq rfl) (hb hby at_150) e26 (by decide) (by decide) ?_
  intro T27 L27 v27 X27 hQ27
  obtain ⟨rfl, N27q, e27⟩ := hQ27
  have N27 := Fr.app N26 N27q
  show Own.Fin p e below (T27.setTop (mkF m 153 #[.val (.int p1), .val (.int p2), .val (.ref b1), .val (.int y25), .unset, .unset, .unset, .unset] [(.int (F_ref p1)), (.int (F_allowed p1))])) _
  have hc153_27 : (F_allowed p1) = (F_ref p1) := ow_eqv _
  refine Own.go (fun t k => XS.icmpNo X27.here hx rfl (hb hby at_153) rfl (teq hc153_27).2 k) ?_
  show Own.Fin p e below (T27.setTop (mkF m 156 #[.val (.int p1), .val (.int p2), .val (.ref b1), .val (.int y25), .unset, .unset, .unset, .unset] [])) _
  refine Own.go (fun t k => XS.iconst X27.here hx rfl (hb hby at_156) k) ?_
  show Own.Fin p e below (T27.setTop (mkF m 157 #[.val (.int p1), .val (.int p2), .val (.ref b1), .val (.int y25), .unset, .unset, .unset, .unset] [(.int (1 : Int32))])) _
  refine Own.go (fun t k => XS.goto X27.here hx rfl (pc0 := 157) (pc' := 161) rfl (hb hby at_157) (by decide) (by decide) k) ?_
  show Own.Fin p e below (T27.setTop (mkF m 161 #[.val (.int p1), .val (.int p2), .val (.ref b1), .val (.int y25), .unset, .unset, .unset, .unset] [(.int (1 : Int32))])) _
  refine Own.go (fun t k => XS.istore X27.here hx rfl (hb hby at_161) rfl (l' := #[.val (.int p1), .val (.int p2), .val (.ref b1), .val (.int y25), .val (.int (1 : Int32)), .unset, .unset, .unset]) rfl k) ?_
  show Own.Fin p e below (T27.setTop (mkF m 163 #[.val (.int p1), .val (.int p2), .val (.ref b1), .val (.int y25), .val (.int (1 : Int32)), .unset, .unset, .unset] [])) _
  refine Own.go (fun t k => XS.iloadN X27.here hx rfl (hb hby at_163) rfl k) ?_
  show Own.Fin p e below (T27.setTop (mkF m 164 #[.val (.int p1), .val (.int p2), .val (.ref b1), .val (.int y25), .val (.int (1 : Int32)), .unset, .unset, .unset] [(.int y25)])) _
  refine Own.go (fun t k => XS.iconst X27.here hx rfl (hb hby at_164) k) ?_
  show Own.Fin p e below (T27.setTop (mkF m 165 #[.val (.int p1), .val (.int p2), .val (.ref b1), .val (.int y25), .val (.int (1 : Int32)), .unset, .unset, .unset] [(.int (1 : Int32)), (.int y25)])) _
  refine Own.go (fun t k => XS.isub X27.here hx rfl (hb hby at_165) rfl k) ?_
  show Own.Fin p e below (T27.setTop (mkF m 166 #[.val (.int p1), .val (.int p2), .val (.ref b1), .val (.int y25), .val (.int (1 : Int32)), .unset, .unset, .unset] [(.int (y25 - (1 : Int32)))])) _
  refine Own.cS X27 hx hZ hown (hw _ (List.mem_of_getElem? (i := 13) rfl)) (hw _ (List.mem_of_getElem? (i := 14) rfl)) (hw _ (List.mem_of_getElem? (i := 15) rfl)) (hw _ (List.mem_of_getElem? (i := 16) rfl)) (by decide) (rm1 l Z a0 hw [] (y25 - (1 : Int32)) h24 n0 Z24 ) (by decide) (W := 0) (by decide) (argsL := [(.int (y25 - (1 : Int32)))]) (rest := []) (by rw [hml]; rfl) (lenOf pd_0 rfl) rfl (Nat.le_of_eq rfl) (hb hby at_166) e27 (by decide) (by decide) ?_
  intro T29 L29 v29 X29 hQ29
  obtain ⟨rfl, N29q, e29⟩ := hQ29
  have N29 := Fr.app N27 N29q
  show Own.Fin p e below (T29.setTop (mkF m 169 #[.val (.int p1), .val (.int p2), .val (.ref b1), .val (.int y25), .val (.int (1 : Int32)), .unset, .unset, .unset] [(.int (F_allowed (y25 - (1 : Int32))))])) _
  refine Own.go (fun t k => XS.iloadN X29.here hx rfl (hb hby at_169) rfl k) ?_
  show Own.Fin p e below (T29.setTop (mkF m 170 #[.val (.int p1), .val (.int p2), .val (.ref b1), .val (.int y25), .val (.int (1 : Int32)), .unset, .unset, .unset] [(.int y25), (.int (F_allowed (y25 - (1 : Int32))))])) _
  refine Own.go (fun t k => XS.iconst X29.here hx rfl (hb hby at_170) k) ?_
  show Own.Fin p e below (T29.setTop (mkF m 171 #[.val (.int p1), .val (.int p2), .val (.ref b1), .val (.int y25), .val (.int (1 : Int32)), .unset, .unset, .unset] [(.int (1 : Int32)), (.int y25), (.int (F_allowed (y25 - (1 : Int32))))])) _
  refine Own.go (fun t k => XS.isub X29.here hx rfl (hb hby at_171) rfl k) ?_
  show Own.Fin p e below (T29.setTop (mkF m 172 #[.val (.int p1), .val (.int p2), .val (.ref b1), .val (.int y25), .val (.int (1 : Int32)), .unset, .unset, .unset] [(.int (y25 - (1 : Int32))), (.int (F_allowed (y25 - (1 : Int32))))])) _
  refine Own.cS X29 hx hZ hown (hw _ (List.mem_of_getElem? (i := 19) rfl)) (hw _ (List.mem_of_getElem? (i := 20) rfl)) (hw _ (List.mem_of_getElem? (i := 21) rfl)) (hw _ (List.mem_of_getElem? (i := 22) rfl)) (by decide) (rm2 l Z a0 hw [] (y25 - (1 : Int32)) h24 n0 Z24 ) (by decide) (W := 1) (by decide) (argsL := [(.int (y25 - (1 : Int32)))]) (rest := [(.int (F_allowed (y25 - (1 : Int32))))]) (by rw [hml]; rfl) (lenOf pd_0 rfl) rfl (Nat.le_of_eq rfl) (hb hby at_172) e29 (by decide) (by decide) ?_
  intro T30 L30 v30 X30 hQ30
  obtain ⟨rfl, N30q, e30⟩ := hQ30
  have N30 := Fr.app N29 N30q
  show Own.Fin p e below (T30.setTop (mkF m 175 #[.val (.int p1), .val (.int p2), .val (.ref b1), .val (.int y25), .val (.int (1 : Int32)), .unset, .unset, .unset] [(.int (F_ref (y25 - (1 : Int32)))), (.int (F_allowed (y25 - (1 : Int32))))])) _
  have hc175_30 : (F_allowed (y25 - (1 : Int32))) = (F_ref (y25 - (1 : Int32))) := ow_eqv _
  refine Own.go (fun t k => XS.icmpNo X30.here hx rfl (hb hby at_175) rfl (teq hc175_30).2 k) ?_
  show Own.Fin p e below (T30.setTop (mkF m 178 #[.val (.int p1), .val (.int p2), .val (.ref b1), .val (.int y25), .val (.int (1 : Int32)), .unset, .unset, .unset] [])) _
  refine Own.go (fun t k => XS.iconst X30.here hx rfl (hb hby at_178) k) ?_
  show Own.Fin p e below (T30.setTop (mkF m 179 #[.val (.int p1), .val (.int p2), .val (.ref b1), .val (.int y25), .val (.int (1 : Int32)), .unset, .unset, .unset] [(.int (1 : Int32))])) _
  refine Own.go (fun t k => XS.goto X30.here hx rfl (pc0 := 179) (pc' := 183) rfl (hb hby at_179) (by decide) (by decide) k) ?_
  show Own.Fin p e below (T30.setTop (mkF m 183 #[.val (.int p1), .val (.int p2), .val (.ref b1), .val (.int y25), .val (.int (1 : Int32)), .unset, .unset, .unset] [(.int (1 : Int32))])) _
  refine Own.go (fun t k => XS.istore X30.here hx rfl (hb hby at_183) rfl (l' := #[.val (.int p1), .val (.int p2), .val (.ref b1), .val (.int y25), .val (.int (1 : Int32)), .val (.int (1 : Int32)), .unset, .unset]) rfl k) ?_
  show Own.Fin p e below (T30.setTop (mkF m 185 #[.val (.int p1), .val (.int p2), .val (.ref b1), .val (.int y25), .val (.int (1 : Int32)), .val (.int (1 : Int32)), .unset, .unset] [])) _
  refine Own.go (fun t k => XS.iloadN X30.here hx rfl (hb hby at_185) rfl k) ?_
  show Own.Fin p e below (T30.setTop (mkF m 186 #[.val (.int p1), .val (.int p2), .val (.ref b1), .val (.int y25), .val (.int (1 : Int32)), .val (.int (1 : Int32)), .unset, .unset] [(.int y25)])) _
  refine Own.cS X30 hx hZ hown (hw _ (List.mem_of_getElem? (i := 13) rfl)) (hw _ (List.mem_of_getElem? (i := 14) rfl)) (hw _ (List.mem_of_getElem? (i := 15) rfl)) (hw _ (List.mem_of_getElem? (i := 16) rfl)) (by decide) (rm1 l Z a0 hw [] y25 h24 n0 Z24 ) (by decide) (W := 0) (by decide) (argsL := [(.int y25)]) (rest := []) (by rw [hml]; rfl) (lenOf pd_0 rfl) rfl (Nat.le_of_eq rfl) (hb hby at_186) e30 (by decide) (by decide) ?_
  intro T32 L32 v32 X32 hQ32
  obtain ⟨rfl, N32q, e32⟩ := hQ32
  have N32 := Fr.app N30 N32q
  show Own.Fin p e below (T32.setTop (mkF m 189 #[.val (.int p1), .val (.int p2), .val (.ref b1), .val (.int y25), .val (.int (1 : Int32)), .val (.int (1 : Int32)), .unset, .unset] [(.int (F_allowed y25))])) _
  refine Own.go (fun t k => XS.iloadN X32.here hx rfl (hb hby at_189) rfl k) ?_
  show Own.Fin p e below (T32.setTop (mkF m 190 #[.val (.int p1), .val (.int p2), .val (.ref b1), .val (.int y25), .val (.int (1 : Int32)), .val (.int (1 : Int32)), .unset, .unset] [(.int y25), (.int (F_allowed y25))])) _
  refine Own.cS X32 hx hZ hown (hw _ (List.mem_of_getElem? (i := 19) rfl)) (hw _ (List.mem_of_getElem? (i := 20) rfl)) (hw _ (List.mem_of_getElem? (i := 21) rfl)) (hw _ (List.mem_of_getElem? (i := 22) rfl)) (by decide) (rm2 l Z a0 hw [] y25 h24 n0 Z24 ) (by decide) (W := 1) (by decide) (argsL := [(.int y25)]) (rest := [(.int (F_allowed y25))]) (by rw [hml]; rfl) (lenOf pd_0 rfl) rfl (Nat.le_of_eq rfl) (hb hby at_190) e32 (by decide) (by decide) ?_
  intro T33 L33 v33 X33 hQ33
  obtain ⟨rfl, N33q, e33⟩ := hQ33
  have N33 := Fr.app N32 N33q
  show Own.Fin p e below (T33.setTop (mkF m 193 #[.val (.int p1), .val (.int p2), .val (.ref b1), .val (.int y25), .val (.int (1 : Int32)), .val (.int (1 : Int32)), .unset, .unset] [(.int (F_ref y25)), (.int (F_allowed y25))])) _
  have hc193_33 : (F_allowed y25) = (F_ref y25) := ow_eqv _
  refine Own.go (fun t k => XS.icmpNo X33.here hx rfl (hb hby at_193) rfl (teq hc193_33).2 k) ?_
  show Own.Fin p e below (T33.setTop (mkF m 196 #[.val (.int p1), .val (.int p2), .val (.ref b1), .val (.int y25), .val (.int (1 : Int32)), .val (.int (1 : Int32)), .unset, .unset] [])) _
  refine Own.go (fun t k => XS.iconst X33.here hx rfl (hb hby at_196) k) ?_
  show Own.Fin p e below (T33.setTop (mkF m 197 #[.val (.int p1), .val (.int p2), .val (.ref b1), .val (.int y25), .val (.int (1 : Int32)), .val (.int (1 : Int32)), .unset, .unset] [(.int (1 : Int32))])) _
  refine Own.go (fun t k => XS.goto X33.here hx rfl (pc0 := 197) (pc' := 201) rfl (hb hby at_197) (by decide) (by decide) k) ?_
  show Own.Fin p e below (T33.setTop (mkF m 201 #[.val (.int p1), .val (.int p2), .val (.ref b1), .val (.int y25), .val (.int (1 : Int32)), .val (.int (1 : Int32)), .unset, .unset] [(.int (1 : Int32))])) _
  refine Own.go (fun t k => XS.istore X33.here hx rfl (hb hby at_201) rfl (l' := #[.val (.int p1), .val (.int p2), .val (.ref b1), .val (.int y25), .val (.int (1 : Int32)), .val (.int (1 : Int32)), .val (.int (1 : Int32)), .unset]) rfl k) ?_
  show Own.Fin p e below (T33.setTop (mkF m 203 #[.val (.int p1), .val (.int p2), .val (.ref b1), .val (.int y25), .val (.int (1 : Int32)), .val (.int (1 : Int32)), .val (.int (1 : Int32)), .unset] [])) _
  refine Own.go (fun t k => XS.iloadN X33.here hx rfl (hb hby at_203) rfl k) ?_
  show Own.Fin p e below (T33.setTop (mkF m 204 #[.val (.int p1), .val (.int p2), .val (.ref b1), .val (.int y25), .val (.int (1 : Int32)), .val (.int (1 : Int32)), .val (.int (1 : Int32)), .unset] [(.int y25)])) _
  refine Own.go (fun t k => XS.iconst X33.here hx rfl (hb hby at_204) k) ?_
  show Own.Fin p e below (T33.setTop (mkF m 205 #[.val (.int p1), .val (.int p2), .val (.ref b1), .val (.int y25), .val (.int (1 : Int32)), .val (.int (1 : Int32)), .val (.int (1 : Int32)), .unset] [(.int (1 : Int32)), (.int y25)])) _
  refine Own.go (fun t k => XS.iadd X33.here hx rfl (hb hby at_205) rfl k) ?_
  show Own.Fin p e below (T33.setTop (mkF m 206 #[.val (.int p1), .val (.int p2), .val (.ref b1), .val (.int y25), .val (.int (1 : Int32)), .val (.int (1 : Int32)), .val (.int (1 : Int32)), .unset] [(.int (y25 + (1 : Int32)))])) _
  refine Own.cS X33 hx hZ hown (hw _ (List.mem_of_getElem? (i := 13) rfl)) (hw _ (List.mem_of_getElem? (i := 14) rfl)) (hw _ (List.mem_of_getElem? (i := 15) rfl)) (hw _ (List.mem_of_getElem? (i := 16) rfl)) (by decide) (rm1 l Z a0 hw [] (y25 + (1 : Int32)) h24 n0 Z24 ) (by decide) (W := 0) (by decide) (argsL := [(.int (y25 + (1 : Int32)))]) (rest := []) (by rw [hml]; rfl) (lenOf pd_0 rfl) rfl (Nat.le_of_eq rfl) (hb hby at_206) e33 (by decide) (by decide) ?_
  intro T35 L35 v35 X35 hQ35
  obtain ⟨rfl, N35q, e35⟩ := hQ35
  have N35 := Fr.app N33 N35q
  show Own.Fin p e below (T35.setTop (mkF m 209 #[.val (.int p1), .val (.int p2), .val (.ref b1), .val (.int y25), .val (.int (1 : Int32)), .val (.int (1 : Int32)), .val (.int (1 : Int32)), .unset] [(.int (F_allowed (y25 + (1 : Int32))))])) _
  refine Own.go (fun t k => XS.iloadN X35.here hx rfl (hb hby at_209) rfl k) ?_
  show Own.Fin p e below (T35.setTop (mkF m 210 #[.val (.int p1), .val (.int p2), .val (.ref b1), .val (.int y25), .val (.int (1 : Int32)), .val (.int (1 : Int32)), .val (.int (1 : Int32)), .unset] [(.int y25), (.int (F_allowed (y25 + (1 : Int32))))])) _
  refine Own.go (fun t k => XS.iconst X35.here hx rfl (hb hby at_210) k) ?_
  show Own.Fin p e below (T35.setTop (mkF m 211 #[.val (.int p1), .val (.int p2), .val (.ref b1), .val (.int y25), .val (.int (1 : Int32)), .val (.int (1 : Int32)), .val (.int (1 : Int32)), .unset] [(.int (1 : Int32)), (.int y25), (.int (F_allowed (y25 + (1 : Int32))))])) _
  refine Own.go (fun t k => XS.iadd X35.here hx rfl (hb hby at_211) rfl k) ?_
  show Own.Fin p e below (T35.setTop (mkF m 212 #[.val (.int p1), .val (.int p2), .val (.ref b1), .val (.int y25), .val (.int (1 : Int32)), .val (.int (1 : Int32)), .val (.int (1 : Int32)), .unset] [(.int (y25 + (1 : Int32))), (.int (F_allowed (y25 + (1 : Int32))))])) _
  refine Own.cS X35 hx hZ hown (hw _ (List.mem_of_getElem? (i := 19) rfl)) (hw _ (List.mem_of_getElem? (i := 20) rfl)) (hw _ (List.mem_of_getElem? (i := 21) rfl)) (hw _ (List.mem_of_getElem? (i := 22) rfl)) (by decide) (rm2 l Z a0 hw [] (y25 + (1 : Int32)) h24 n0 Z24 ) (by decide) (W := 1) (by decide) (argsL := [(.int (y25 + (1 : Int32)))]) (rest := [(.int (F_allowed (y25 + (1 : Int32))))]) (by rw [hml]; rfl) (lenOf pd_0 rfl) rfl (Nat.le_of_eq rfl) (hb hby at_212) e35 (by decide) (by decide) ?_
  intro T36 L36 v36 X36 hQ36
  obtain ⟨rfl, N36q, e36⟩ := hQ36
  have N36 := Fr.app N35 N36q
  show Own.Fin p e below (T36.setTop (mkF m 215 #[.val (.int p1), .val (.int p2), .val (.ref b1), .val (.int y25), .val (.int (1 : Int32)), .val (.int (1 : Int32)), .val (.int (1 : Int32)), .unset] [(.int (F_ref (y25 + (1 : Int32)))), (.int (F_allowed (y25 + (1 : Int32))))])) _
  have hc215_36 : (F_allowed (y25 + (1 : Int32))) = (F_ref (y25 + (1 : Int32))) := ow_eqv _
  refine Own.go (fun t k => XS.icmpNo X36.here hx rfl (hb hby at_215) rfl (teq hc215_36).2 k) ?_
  show Own.Fin p e below (T36.setTop (mkF m 218 #[.val (.int p1), .val (.int p2), .val (.ref b1), .val (.int y25), .val (.int (1 : Int32)), .val (.int (1 : Int32)), .val (.int (1 : Int32)), .unset] [])) _
  refine Own.go (fun t k => XS.iconst X36.here hx rfl (hb hby at_218) k) ?_
  show Own.Fin p e below (T36.setTop (mkF m 219 #[.val (.int p1), .val (.int p2), .val (.ref b1), .val (.int y25), .val (.int (1 : Int32)), .val (.int (1 : Int32)), .val (.int (1 : Int32)), .unset] [(.int (1 : Int32))])) _
  refine Own.go (fun t k => XS.goto X36.here hx rfl (pc0 := 219) (pc' := 223) rfl (hb hby at_219) (by decide) (by decide) k) ?_
  show Own.Fin p e below (T36.setTop (mkF m 223 #[.val (.int p1), .val (.int p2), .val (.ref b1), .val (.int y25), .val (.int (1 : Int32)), .val (.int (1 : Int32)), .val (.int (1 : Int32)), .unset] [(.int (1 : Int32))])) _
  refine Own.go (fun t k => XS.istore X36.here hx rfl (hb hby at_223) rfl (l' := #[.val (.int p1), .val (.int p2), .val (.ref b1), .val (.int y25), .val (.int (1 : Int32)), .val (.int (1 : Int32)), .val (.int (1 : Int32)), .val (.int (1 : Int32))]) rfl k) ?_
  show Own.Fin p e below (T36.setTop (mkF m 225 #[.val (.int p1), .val (.int p2), .val (.ref b1), .val (.int y25), .val (.int (1 : Int32)), .val (.int (1 : Int32)), .val (.int (1 : Int32)), .val (.int (1 : Int32))] [])) _
  refine Own.go (fun t k => XS.iload X36.here hx rfl (hb hby at_225) rfl k) ?_
  show Own.Fin p e below (T36.setTop (mkF m 227 #[.val (.int p1), .val (.int p2), .val (.ref b1), .val (.int y25), .val (.int (1 : Int32)), .val (.int (1 : Int32)), .val (.int (1 : Int32)), .val (.int (1 : Int32))] [(.int (1 : Int32))])) _
  have hc227_37 : ¬ ((1 : Int32) = (0 : Int32)) := by decide
  refine Own.go (fun t k => XS.ifNo X36.here hx rfl (hb hby at_227) rfl ((if0 _ _).trans (feq hc227_37).1) k) ?_
  show Own.Fin p e below (T36.setTop (mkF m 230 #[.val (.int p1), .val (.int p2), .val (.ref b1), .val (.int y25), .val (.int (1 : Int32)), .val (.int (1 : Int32)), .val (.int (1 : Int32)), .val (.int (1 : Int32))] [])) _
  refine Own.go (fun t k => XS.iload X36.here hx rfl (hb hby at_230) rfl k) ?_
  show Own.Fin p e below (T36.setTop (mkF m 232 #[.val (.int p1), .val (.int p2), .val (.ref b1), .val (.int y25), .val (.int (1 : Int32)), .val (.int (1 : Int32)), .val (.int (1 : Int32)), .val (.int (1 : Int32))] [(.int (1 : Int32))])) _
  have hc232_38 : ¬ ((1 : Int32) = (0 : Int32)) := by decide
  refine Own.go (fun t k => XS.ifNo X36.here hx rfl (hb hby at_232) rfl ((if0 _ _).trans (feq hc232_38).1) k) ?_
  show Own.Fin p e below (T36.setTop (mkF m 235 #[.val (.int p1), .val (.int p2), .val (.ref b1), .val (.int y25), .val (.int (1 : Int32)), .val (.int (1 : Int32)), .val (.int (1 : Int32)), .val (.int (1 : Int32))] [])) _
  refine Own.go (fun t k => XS.iload X36.here hx rfl (hb hby at_235) rfl k) ?_
  show Own.Fin p e below (T36.setTop (mkF m 237 #[.val (.int p1), .val (.int p2), .val (.ref b1), .val (.int y25), .val (.int (1 : Int32)), .val (.int (1 : Int32)), .val (.int (1 : Int32)), .val (.int (1 : Int32))] [(.int (1 : Int32))])) _
  have hc237_39 : ¬ ((1 : Int32) = (0 : Int32)) := by decide
  refine Own.go (fun t k => XS.ifNo X36.here hx rfl (hb hby at_237) rfl ((if0 _ _).trans (feq hc237_39).1) k) ?_
  show Own.Fin p e below (T36.setTop (mkF m 240 #[.val (.int p1), .val (.int p2), .val (.ref b1), .val (.int y25), .val (.int (1 : Int32)), .val (.int (1 : Int32)), .val (.int (1 : Int32)), .val (.int (1 : Int32))] [])) _
  refine Own.go (fun t k => XS.iload X36.here hx rfl (hb hby at_240) rfl k) ?_
  show Own.Fin p e below (T36.setTop (mkF m 242 #[.val (.int p1), .val (.int p2), .val (.ref b1), .val (.int y25), .val (.int (1 : Int32)), .val (.int (1 : Int32)), .val (.int (1 : Int32)), .val (.int (1 : Int32))] [(.int (1 : Int32))])) _
  have hc242_40 : ¬ ((1 : Int32) = (0 : Int32)) := by decide
  refine Own.go (fun t k => XS.ifNo X36.here hx rfl (hb hby at_242) rfl ((if0 _ _).trans (feq hc242_40).1) k) ?_
  show Own.Fin p e below (T36.setTop (mkF m 245 #[.val (.int p1), .val (.int p2), .val (.ref b1), .val (.int y25), .val (.int (1 : Int32)), .val (.int (1 : Int32)), .val (.int (1 : Int32)), .val (.int (1 : Int32))] [])) _
  refine Own.go (fun t k => XS.iconst X36.here hx rfl (hb hby at_245) k) ?_
  show Own.Fin p e below (T36.setTop (mkF m 246 #[.val (.int p1), .val (.int p2), .val (.ref b1), .val (.int y25), .val (.int (1 : Int32)), .val (.int (1 : Int32)), .val (.int (1 : Int32)), .val (.int (1 : Int32))] [(.int (1 : Int32))])) _
  refine Own.go (fun t k => XS.goto X36.here hx rfl (pc0 := 246) (pc' := 250) rfl (hb hby at_246) (by decide) (by decide) k) ?_
  show Own.Fin p e below (T36.setTop (mkF m 250 #[.val (.int p1), .val (.int p2), .val (.ref b1), .val (.int y25), .val (.int (1 : Int32)), .val (.int (1 : Int32)), .val (.int (1 : Int32)), .val (.int (1 : Int32))] [(.int (1 : Int32))])) _
  refine Own.retN X36 hx Bd.notSynchronized (t := .boolean) Bd.returns (by simp) (hb hby at_250) (by decide) (by decide) ?_
  exact ⟨rfl, N36⟩
set_option maxRecDepth 65536 in
set_option maxHeartbeats 40000000 in
theorem comes_1 {Post : Tables → Env → Array Value → State → Outcome → State → Prop} (hpost : ∀ tb e args s v u, (limb_1_1.after args s (.returned v) u = true ∧ limb_1_2.after args s (.returned v) u = true ∧ True) → FrameEnd s (.returned v) u (Jvm.fieldLocs frame_1_writes args s ++ Jvm.arrayLocs frame_1_arrays args s ++ Jvm.staticLocs frame_1_statics s) 16 128 → Post tb e args s (.returned v) u) :
    ArmFor flags0 classFile x code maxLocals ret World_1 tables_1 room_1 Calls_1 rest_1 Pre_1 Post := by
  intro l hfl _ _ p e ha hc hk s m args below hf hA hF happ hP
  obtain ⟨hcalls, hrest, hpre⟩ := hP
  obtain ⟨-, -, -, hnamed, -, -, -, hat⟩ := (Spec.applies_iff hf).mp happ
  obtain ⟨hg, hn⟩ := and_e (Cond.before_iff.mp (show (Jvm.Cond.and given_1 narrow_1).before args s = true from hpre))
  obtain ⟨g1, g2⟩ := and_e hg
  obtain ⟨g3, g4⟩ := and_e g2
  obtain ⟨w0, w1, rfl⟩ : ∃ w0 w1 : Value, args = #[w0, w1] := by
    have hs : args.size = 2 := by simpa [Cond.value, given_1] using g1
    obtain ⟨L⟩ := args
    match L, hs with
    | [w0, w1], _ => exact ⟨w0, w1, rfl⟩
  have hw := fun d (hd : d ∈ tables_1) => atoms_spec (ws := Jvm.Cond.code x code maxLocals ret :: tables_1) hat d (List.mem_cons_of_mem _ hd)
  have hfit : Fit s := fun {y c} hc i hi => by
    obtain ⟨ha, rfl⟩ := Array.getElem?_eq_some_iff.mp hc
    have q := List.all_eq_true.mp ((Array.all_eq_true_iff_forall_mem.mp hF) _ (Array.getElem_mem ha)) i (List.mem_range.mpr hi)
    simpa [Array.getElem?_eq_getElem hi] using q
  obtain ⟨i0, ei0⟩ := is_v g3
  obtain rfl : w0 = (.int i0) := Option.some.inj ei0
  obtain ⟨i1, ei1⟩ := is_v g4
  obtain rfl : w1 = (.int i1) := Option.some.inj ei1
  obtain ⟨n, o, h1, h2, h3, _, L, rfl, ⟨rfl, N⟩, hq⟩ := rm0 l s _ hw tables_1 i0 i1 s.heap s.heap.size (Nat.le_refl _)  p e ha hc hk s m _ below hf ((Spec.applies_iff_loose hf).mp happ).1 ⟨rfl, State.Warmed39.refl s, rfl⟩ trivial
  refine ⟨n, _, h1, h2, h3, hpost _ _ _ _ _ _ ⟨Cond.after_iff.mpr rfl, Cond.after_iff.mpr (eq_i res_at (Term.int_eval (1)) rfl), trivial⟩ ⟨hq.1, hq.2.1, (hq.2.2.sift fun y hy => Or.inr (N y hy)).mono (by decide) (by decide)⟩⟩
theorem main_1_1 : Claimed_1_1 := comes_1 fun _ _ _ _ _ _ h hF => ⟨h.1, hF⟩
theorem main_1_2 : Claimed_1_2 := comes_1 fun _ _ _ _ _ _ h hF => ⟨h.2.1, hF⟩
end Jvm.Pilot.@@N@@
namespace Jvm.Pilot.@@N@@
open Jvm Jvm.ClassFile Sem Op Lib Jvm.Free Jvm.Stand Jvm.Pilot.@@N@@.Jvm.D
/-! MADE BY PROGRAM (witnessworld.py) out of the Statement's table words and the real class files: 9 classes; the members and pool entries that the words name. The judged class is class 1, her method 2. -/
namespace start1
open Jvm.ClassFile
def u (s : String) : CpInfo := .utf8 (stringToUtf16 s)
/-- a pool by its gaps: so many unusable entries, then the entry; so many at the end -/
def gap : Nat → List CpInfo → List CpInfo
  | 0, r => r
  | n + 1, r => .unusable :: gap n r
def poolList (es : List (Nat × CpInfo)) (last : Nat) : List CpInfo := es.foldr (fun e r => gap e.1 (e.2 :: r)) (gap last [])
def pool (es : List (Nat × CpInfo)) (last : Nat) : Array CpInfo := ⟨poolList es last⟩
def fileOf (pool : Array CpInfo) (this : Nat) (attrs : Array Attribute := #[]) (ms : Array MethodInfo := #[]) (fl : Nat := 33) (sup : Nat := 0) (ifs : Array Nat := #[]) (fds : Array FieldInfo := #[]) : ClassFile where
  minorVersion := 0
  majorVersion := 65
  constantPool := pool
  accessFlags := fl
  thisClass := this
  superClass := sup
  interfaces := ifs
  fields := fds
  methods := ms
  attributes := attrs
def plain (name : String) (sup : Option ClassId) : Class where
  name := name
  kind := .ordinary
  loader := none
  accessFlags := 33
  super := sup
  interfaces := #[]
  cf := none
  fields := #[]
  methods := #[]
  instanceTypes := #[]
  staticTypes := #[]
  resolved := #[]
  callSites := []
  init := .initialized
  statics := none
  mirror := none

def pool0 : Array CpInfo := pool [(5, u "<init>"), (0, u "()V"), (1, .class_ 10), (1, u "java/lang/Object")] 113

def k0m0 : Method := { name := "<init>", desc := "()V", sig := { parameters := [], returnType := none }, accessFlags := 1, code := none }
/-- java/lang/Object -/
def k0 : Class := { plain "java/lang/Object" none with
  accessFlags := 33
  interfaces := #[]
  cf := some (fileOf pool0 8 #[] #[{ accessFlags := 1, nameIndex := 5, descriptorIndex := 6, attributes := #[] }] 33 0 #[] #[])
  fields := #[]
  methods := #[k0m0]
  instanceTypes := #[]
  staticTypes := #[]
  resolved := Array.replicate 124 none
  statics := none }

def pool1 : Array CpInfo := pool [(2, .class_ 4), (1, u "java/lang/Object"), (0, u "<init>"), (0, u "()V"), (0, .integer 1114111), (0, .integer 55296), (0, .integer 57344), (0, .integer 65534), (0, .integer 65535), (2, .integer 2147483648), (0, .integer 55295), (0, .integer 57343), (0, .integer 65533), (0, .integer 65536), (0, .integer 1114112), (0, .integer 2147483647), (0, .methodref 22 23), (0, .class_ 24), (0, .nameAndType 25 26), (0, u "com/example/loomwright/loomwright/rule/XmlText"), (0, u "isAllowed"), (0, u "(I)Z"), (0, .methodref 28 29), (0, .class_ 30), (0, .nameAndType 31 26), (0, u "com/example/loomwright/loomwright/rule/XmlTextIsAllowedPinLaw"), (0, u "ref"), (3, u "law"), (0, u "(II)Z")] 4

def k1m0 : Method := { name := "<init>", desc := "()V", sig := { parameters := [], returnType := none }, accessFlags := 2, code := none }
def k1c1 : Code := { maxStack := 2, maxLocals := 1, code := method_2_code, exceptionTable := #[], attributes := #[] }
def k1m1 : Method := { name := "ref", desc := "(I)Z", sig := { parameters := [.int], returnType := some .boolean }, accessFlags := 10, code := some k1c1 }
def k1c2 : Code := { maxStack := 4, maxLocals := 8, code := code, exceptionTable := #[], attributes := #[] }
def k1m2 : Method := { name := "law", desc := "(II)Z", sig := { parameters := [.int, .int], returnType := some .boolean }, accessFlags := 9, code := some k1c2 }
/-- com/example/loomwright/loomwright/rule/XmlTextIsAllowedPinLaw -/
def k1 : Class := { plain "com/example/loomwright/loomwright/rule/XmlTextIsAllowedPinLaw" (some 0) with
  accessFlags := 49
  interfaces := #[]
  cf := some (fileOf pool1 28 #[] #[{ accessFlags := 2, nameIndex := 5, descriptorIndex := 6, attributes := #[] }, { accessFlags := 10, nameIndex := 31, descriptorIndex := 26, attributes := #[] }, { accessFlags := 9, nameIndex := 35, descriptorIndex := 36, attributes := #[] }] 49 2 #[] #[])
  fields := #[]
  methods := #[k1m0, k1m1, k1m2]
  instanceTypes := #[]
  staticTypes := #[]
  resolved := Array.replicate 41 none
  statics := none }

def pool2 : Array CpInfo := pool [(2, .class_ 4), (1, u "java/lang/Object"), (0, u "<init>"), (0, u "()V"), (1, .class_ 10), (1, u "com/example/loomwright/loomwright/rule/XmlText"), (151, u "isAllowed"), (0, u "(I)Z"), (18, .integer 55295), (0, .integer 57344), (0, .integer 65533), (0, .integer 65536), (0, .integer 1114111)] 30

def k2m0 : Method := { name := "<init>", desc := "()V", sig := { parameters := [], returnType := none }, accessFlags := 2, code := none }
def k2c1 : Code := { maxStack := 2, maxLocals := 1, code := prog_105_method_7_code, exceptionTable := #[], attributes := #[] }
def k2m1 : Method := { name := "isAllowed", desc := "(I)Z", sig := { parameters := [.int], returnType := some .boolean }, accessFlags := 8, code := some k2c1 }
/-- com/example/loomwright/loomwright/rule/XmlText -/
def k2 : Class := { plain "com/example/loomwright/loomwright/rule/XmlText" (some 0) with
  accessFlags := 48
  interfaces := #[]
  cf := some (fileOf pool2 8 #[] #[{ accessFlags := 2, nameIndex := 5, descriptorIndex := 6, attributes := #[] }, { accessFlags := 8, nameIndex := 162, descriptorIndex := 163, attributes := #[] }] 48 2 #[] #[])
  fields := #[]
  methods := #[k2m0, k2m1]
  instanceTypes := #[]
  staticTypes := #[]
  resolved := Array.replicate 217 none
  statics := none }

def pool3 : Array CpInfo := pool [(1, u "java/lang/Cloneable"), (0, .class_ 1), (0, u "java/lang/Object"), (0, .class_ 3)] 3

/-- java/lang/Cloneable -/
def k3 : Class := { plain "java/lang/Cloneable" (some 0) with
  accessFlags := 1537
  interfaces := #[]
  cf := some (fileOf pool3 2 #[] #[] 1537 4 #[] #[])
  fields := #[]
  methods := #[]
  instanceTypes := #[]
  staticTypes := #[]
  resolved := Array.replicate 8 none
  statics := none }

def pool4 : Array CpInfo := pool [(1, u "java/io/Serializable"), (0, .class_ 1), (0, u "java/lang/Object"), (0, .class_ 3)] 3

/-- java/io/Serializable -/
def k4 : Class := { plain "java/io/Serializable" (some 0) with
  accessFlags := 1537
  interfaces := #[]
  cf := some (fileOf pool4 2 #[] #[] 1537 4 #[] #[])
  fields := #[]
  methods := #[]
  instanceTypes := #[]
  staticTypes := #[]
  resolved := Array.replicate 8 none
  statics := none }

/-- the primitive byte -/
def k5 : Class := { plain "byte" none with kind := .primitive 'B', accessFlags := 0x411 }
/-- [B -/
def k6 : Class := { plain "[B" (some 0) with kind := .array 5 .byte, interfaces := #[3, 4], accessFlags := 1041 }

/-- the primitive int -/
def k7 : Class := { plain "int" none with kind := .primitive 'I', accessFlags := 0x411 }
/-- [I -/
def k8 : Class := { plain "[I" (some 0) with kind := .array 7 .int, interfaces := #[3, 4], accessFlags := 1041 }

def heap : Heap := #[]
def classes : Array Class := #[k0, k1, k2, k3, k4, k5, k6, k7, k8]
def interned : List (Array UInt16 × Addr) := []
def slotsUsed : Nat := 0
def theMethod : MethodId := ⟨1, 2⟩
def args0 : Array Value := #[.int 5, .int 7]
def aboutOver (below : List Frame) : State where
  vm := { classes := classes, interned := interned.toArray }
  heap := heap
  slotsUsed := slotsUsed
  threads := #[{ frames := .invoking theMethod args0 :: below }]
def below0 : List Frame := [.native { method := ⟨0, 0⟩, args := #[] }]
def about1 : State := aboutOver below0
def p0 : Program := .bare "" "" ""
def e0 : Env := launch0.env 0 0 0
theorem w_frames : about1.frames = Frame.invoking theMethod args0 :: below0 := rfl
set_option maxRecDepth 65536 in
theorem w_args : argsFit about1.vm theMethod args0 = true := by decide +kernel
set_option maxRecDepth 65536 in
theorem w_heap : heapFits about1 = true := by decide +kernel
set_option maxRecDepth 65536 in
theorem w_runnable : about1.curStatus? = some .runnable := by decide +kernel
set_option maxRecDepth 65536 in
theorem w_alone : about1.alone = true := by decide +kernel
set_option maxRecDepth 65536 in
theorem w_named : about1.methodNamed? x = some theMethod := by decide +kernel
set_option maxRecDepth 65536 in
theorem w_hears : about1.hears theMethod below0 = true := by decide +kernel
set_option maxRecDepth 65536 in
theorem w_ripe : about1.ripe theMethod args0 below0 = true := by decide +kernel
theorem w_running : about1.status = .running := rfl
set_option maxRecDepth 65536 in
theorem w_room : about1.hasRoom e0.platform room_1 = true :=
  launch0.hasRoom_least _ room_1 (by decide +kernel) (by decide +kernel) (by decide +kernel) (by decide +kernel) (by decide +kernel) (by decide +kernel)
theorem allAtoms_all (ts : List Jvm.Cond) (a : Array Jvm.Value) (st : Jvm.State) : (allAtoms ts).before a st = ts.all (fun c => c.before a st) := by
  induction ts with
  | nil => rfl
  | cons c t ih =>
    show (Jvm.Cond.and c (allAtoms t)).before a st = _
    rw [Jvm.Cond.before_and, ih, List.all_cons]
def words1 : List Jvm.Cond := Jvm.Cond.code x code maxLocals ret :: tables_1
/-- a 'code' word, met by the world's own term for the bytes: nothing is compared byte by byte -/
theorem code_word {y : MethodName} {bytes : ByteArray} {mx : Nat} {rt : Option FieldType} {a : Array Value} {s : State} {m : MethodId} {meth : Method} {c : Code} (h1 : s.methodNamed? y = some m) (h2 : s.vm.method? m = some meth) (h3 : meth.code = some c) (h4 : c.code = bytes)
    (h5 : (c.maxLocals == mx && c.exceptionTable.isEmpty && decide (c.maxStack ≤ mostOperands) && decide (meth.sig.returnType = rt) && !meth.locks && decide (parseMethodDescriptor y.desc = some meth.sig)) = true) : (Jvm.Cond.code y bytes mx rt).before a s = true := by
  simp only [Bool.and_eq_true, beq_iff_eq, Bool.not_eq_true', decide_eq_true_eq] at h5
  obtain ⟨⟨⟨⟨⟨g1, g2⟩, g3⟩, g4⟩, g5⟩, g6⟩ := h5
  simp [Cond.before, Cond.holds, Cond.value, h1, h2, h3, h4, g1, g2, g3, g4, g5, g6]
def isCode : Jvm.Cond → Bool
  | .code _ _ _ _ => true
  | _ => false
theorem all_split {L : List Jvm.Cond} {P : Jvm.Cond → Bool} (h1 : L.all (fun c => isCode c || P c) = true) (h2 : ∀ c ∈ L.filter isCode, P c = true) : L.all P = true := by
  refine List.all_eq_true.mpr fun c hc => ?_
  have h := List.all_eq_true.mp h1 c hc
  rcases Bool.eq_false_or_eq_true (isCode c) with hi | hi
  · exact h2 c (List.mem_filter.mpr ⟨hc, hi⟩)
  · simpa [hi] using h
set_option maxRecDepth 65536 in
theorem w_c0 : (Jvm.Cond.code x code maxLocals ret).before args0 about1 = true := code_word (m := ⟨1, 2⟩) (meth := k1m2) (c := k1c2) (by decide +kernel) rfl rfl rfl (by decide +kernel)
set_option maxRecDepth 65536 in
theorem w_c1 : (Jvm.Cond.code ({ cls := "com/example/loomwright/loomwright/rule/XmlText", name := "isAllowed", desc := "(I)Z" } : Jvm.MethodName) prog_105_method_7_code (1 : Nat) (Option.some Jvm.ClassFile.FieldType.boolean)).before args0 about1 = true := code_word (m := ⟨2, 1⟩) (meth := k2m1) (c := k2c1) (by decide +kernel) rfl rfl rfl (by decide +kernel)
set_option maxRecDepth 65536 in
theorem w_c2 : (Jvm.Cond.code ({ cls := "com/example/loomwright/loomwright/rule/XmlTextIsAllowedPinLaw", name := "ref", desc := "(I)Z" } : Jvm.MethodName) method_2_code (1 : Nat) (Option.some Jvm.ClassFile.FieldType.boolean)).before args0 about1 = true := code_word (m := ⟨1, 1⟩) (meth := k1m1) (c := k1c1) (by decide +kernel) rfl rfl rfl (by decide +kernel)
def codes1 : List Jvm.Cond := [Jvm.Cond.code x code maxLocals ret, Jvm.Cond.code ({ cls := "com/example/loomwright/loomwright/rule/XmlText", name := "isAllowed", desc := "(I)Z" } : Jvm.MethodName) prog_105_method_7_code (1 : Nat) (Option.some Jvm.ClassFile.FieldType.boolean), Jvm.Cond.code ({ cls := "com/example/loomwright/loomwright/rule/XmlTextIsAllowedPinLaw", name := "ref", desc := "(I)Z" } : Jvm.MethodName) method_2_code (1 : Nat) (Option.some Jvm.ClassFile.FieldType.boolean)]
set_option maxRecDepth 65536 in
theorem codes_eq : words1.filter isCode = codes1 := rfl
theorem w_codes : ∀ c ∈ words1.filter isCode, c.before args0 about1 = true := by
  rw [codes_eq]
  intro c hc
  simp only [codes1, List.mem_cons, List.not_mem_nil, or_false] at hc
  rcases hc with rfl | rfl | rfl
  · exact w_c0
  · exact w_c1
  · exact w_c2
set_option maxRecDepth 65536 in
theorem w_t1 : (words1.take 24).all (fun c => isCode c || c.before args0 about1) = true := by decide +kernel
set_option maxRecDepth 65536 in
theorem w_t2 : (words1.drop 24).all (fun c => isCode c || c.before args0 about1) = true := by decide +kernel
theorem w_tables : (allAtoms (Jvm.Cond.code x code maxLocals ret :: tables_1)).before args0 about1 = true := by
  rw [allAtoms_all]
  show words1.all (fun c => c.before args0 about1) = true
  refine all_split ?_ w_codes
  rw [← List.take_append_drop 24 words1, List.all_append, w_t1, w_t2]
  rfl
set_option maxRecDepth 65536 in
theorem w_case : (Jvm.Cond.and given_1 narrow_1).before args0 about1 = true := by decide +kernel
theorem w_applies : (headSpec (Jvm.Cond.code x code maxLocals ret :: tables_1) room_1).applies x e0.platform about1 = true :=
  (Spec.applies_iff w_frames).mpr ⟨w_running, w_runnable, w_alone, w_named, w_hears, w_ripe, w_room, w_tables⟩
theorem atStart : AtStart classFile x code maxLocals ret World_1 tables_1 room_1 Calls_1 rest_1 Pre_1 launch0 p0 e0 about1 theMethod args0 below0 :=
  ⟨lists_1, trivial, launch0.admits_env _ _ _, launch0.least_env, fairChoices_fair.cas, fairChoices_fair.clock, w_frames, w_args, w_heap, w_applies, trivial, trivial, w_case⟩
end start1
theorem witness_1 : WitnessClaimed_1 := ⟨start1.p0, start1.e0, start1.about1, start1.theMethod, start1.args0, start1.below0, start1.atStart⟩
end Jvm.Pilot.@@N@@
