import JvmDerived
import JvmDerived.Pilot.@@N@@Statement
import JvmDerived.Pilot.@@N@@Code
set_option linter.unusedVariables false
set_option linter.unusedSimpArgs false
@@BLOCK:NumsL.lean.txt@@
namespace Jvm.Pilot.@@N@@
open Jvm Jvm.ClassFile Sem Op Lib Jvm.Free Jvm.Stand Jvm.LawKit Jvm.RoadKit Bundle Jvm.Pilot.@@N@@.Jvm.D
/-! my own layer: what stands still in a walk (own_Cx, own_Mx), where it stands (own_Sx), what is left of it (own_Fin) -/
abbrev own_Cx : Type := Program × Launch × Env × Room × State × MethodId × Array Value × List Frame × Method × Code
def own_Sx (n0 : Nat) : own_Cx → State → Heap → Nat → Nat → Prop
  | (p, l, e, R, s, m, args, below, meth, c), T, h, cl, sl => ∃ locs, Stand p l e R s m args below meth c T locs cl sl ∧ Fr n0 locs ∧ T.heap = h ∧ n0 ≤ s.heap.size ∧ cl ≤ R.cells ∧ sl ≤ R.slots
def own_Mx (Z : State) (a0 : Array Value) : own_Cx → ByteArray → String → Nat → Option FieldType → Room → Prop
  | (p, l, e, R, s, m, args, below, meth, c), code, own, mx, ret, rm => p.tables.exec = Jvm.exec ∧ c.code = code ∧ c.maxLocals = mx ∧ s.vm.findClass own = some m.cls ∧ meth.sig.returnType = ret ∧ meth.locks = false ∧ Z.Warmed39 s.vm ∧ R = rm ∧ (∀ d ∈ tables_1, d.before a0 Z = true)
def own_Fin (n0 : Nat) : own_Cx → (Option Value → Heap → Prop) → State → Nat → Array Slot → List Value → Prop
  | (p, l, e, R, s, m, args, below, meth, c), P, T, pc, L, S => ∃ s₂ o, Steps p.tables e below (T.setTop (mkF m pc L S)) s₂ ∧ s₂.status = .running ∧ Ended s₂ below o ∧ ∃ v L', o = .returned v ∧ (P v s₂.heap ∧ Fr n0 L') ∧ FrameEnd s o s₂ L' R.cells R.slots
/-- a method's contract: from these arguments and this heap it returns, and P says what and with which heap -/
def own_Met (l : Launch) (Z : State) (n0 : Nat) (y : MethodName) (code : ByteArray) (mx : Nat) (ret : Option FieldType) (rm : Room) (args : Array Value) (h0 : Heap) (P : Option Value → Heap → Prop) : Prop :=
  ∀ ws : List Jvm.Cond, MetFree l y (head1 (Jvm.Cond.code y code mx ret :: ws) rm) (fun a U => a = args ∧ Z.Warmed39 U.vm ∧ U.heap = h0) (fun _ _ _ _ _ => True) (fun _ U o U' => ∃ v L, o = .returned v ∧ (P v U'.heap ∧ Fr n0 L) ∧ FrameEnd U o U' L rm.cells rm.slots)
section OwnLayer
variable {Z : State} {a0 : Array Value} {n0 : Nat} {K : own_Cx} {code : ByteArray} {own : String} {mx : Nat} {ret : Option FieldType} {rm : Room} {P : Option Value → Heap → Prop} {T : State} {h : Heap} {cl sl pc pc' : Nat} {L L' : Array Slot} {S rest : List Value}
theorem own_enter {l : Launch} {y : MethodName} {args : Array Value} {h0 : Heap} (hpl : plainFor y = true) (hw : ∀ d ∈ tables_1, d.before a0 Z = true) (hn : n0 ≤ h0.size) (he : ∀ m, entryFrame m args mx = mkF m 0 L [])
    (body : ∀ (K : own_Cx) (T : State), K.2.2.2.2.2.2.2.2.1.name = y.name → own_Mx Z a0 K code y.cls mx ret rm → own_Sx n0 K T h0 0 0 → own_Fin n0 K P T 0 L []) : own_Met l Z n0 y code mx ret rm args h0 P := by
  intro ws
  refine MetFree.of_bodySF hpl hisR ?_
  intro p e s m args' below meth c s₁ Bd hml0 hP hK
  obtain ⟨rfl, hZ, hh⟩ := hP
  have hown : s.vm.findClass y.cls = some m.cls := findClass_of_methodNamed Bd.named
  have X0 : Stand p l e rm s m args' below meth c s₁ [] 0 0 := Stand.of_body Bd
  have e0 : s₁.heap = h0 := by rw [← hh, Bd.state]; rfl
  obtain ⟨s2, o, st, r⟩ := body (p, l, e, rm, s, m, args', below, meth, c) s₁ (name_of_methodNamed Bd.named Bd.method).1 ⟨Bd.exec, Bd.bytes, hml0, hown, Bd.returns, Bd.notSynchronized, hZ, rfl, hw⟩ ⟨[], X0, Fr.nil n0, e0, by rw [hh]; exact hn, Nat.zero_le _, Nat.zero_le _⟩
  exact ⟨s2, o, castTop (he m) st, r⟩
theorem own_Sx.size (X : own_Sx n0 K T h cl sl) : n0 ≤ h.size := by
  obtain ⟨p, l, e, R, s, m, args, below, meth, c⟩ := K
  obtain ⟨locs, X, -, rfl, hn, -⟩ := X
  exact Nat.le_trans hn X.same.2.1
theorem own_ret {t : FieldType} (M : own_Mx Z a0 K code own mx (some t) rm) (X : own_Sx n0 K T h cl sl) {w w' : Value} {i : Instr} (hd : decode code pc = .ok (i, 1))
    (hst : ∀ {p : Program} {l : Launch} {e : Env} {R : Room} {s : State} {m : MethodId} {args : Array Value} {below : List Frame} {meth : Method} {c : Code} {locs : List Loc} {fs : List Frame}, Stand p l e R s m args below meth c T locs cl sl → p.tables.exec = Jvm.exec → meth.sig.returnType = some t → decode c.code pc = .ok (i, 1) → (∀ (f : JFrame) (acts : List Action), f.method = m → f.locked = none → f.entered = [] → (doReturn e (T.setTop f) acts (some w')).1 = T.setFrames fs) → Steps p.tables e below (T.setTop (mkF m pc L (w :: S))) (T.setFrames fs)) (hP : P (some w') h) : own_Fin n0 K P T pc L (w :: S) := by
  obtain ⟨p, l, e, R, s, m, args, below, meth, c⟩ := K
  obtain ⟨hx, hby, hml, hown, hret, hlk, hZ, rfl, hw⟩ := M
  obtain ⟨locs, X, hN, rfl, hn, hc, hs⟩ := X
  obtain ⟨fs, hr, hrun, hended, hW, hsame⟩ := X.leave (v := some w') (fun q => by rw [hret] at q; cases q) hlk
  exact ⟨_, _, hst X hx hret (hb hby hd) hr, hrun, hended, _, _, rfl, ⟨hP, hN⟩, ⟨_, rfl⟩, hW, hsame.mono hc hs⟩
theorem own_retI (M : own_Mx Z a0 K code own mx (some .int) rm) (X : own_Sx n0 K T h cl sl) {z : Int32} (hd : decode code pc = .ok (.ireturn, 1)) (hP : P (some (.int z)) h) : own_Fin n0 K P T pc L (.int z :: S) :=
  own_ret M X hd (fun X hx hret hd hr => retOut X hx hret rfl (Or.inl ⟨rfl, Or.inl rfl, z, rfl⟩) hd hr) hP
theorem own_retJ (M : own_Mx Z a0 K code own mx (some .long) rm) (X : own_Sx n0 K T h cl sl) {z : Int64} (hd : decode code pc = .ok (.lreturn, 1)) (hP : P (some (.long z)) h) : own_Fin n0 K P T pc L (.long z :: S) :=
  own_ret M X hd (fun X hx hret hd hr => retOut X hx hret rfl (Or.inr (Or.inl ⟨rfl, rfl, z, rfl⟩)) hd hr) hP
theorem own_retA {t : FieldType} (M : own_Mx Z a0 K code own mx (some t) rm) (X : own_Sx n0 K T h cl sl) {a : Addr} (ht : t.isReference = true) (hna : narrow t (.ref a) = .ref a) (hd : decode code pc = .ok (.areturn, 1)) (hP : P (some (.ref a)) h) : own_Fin n0 K P T pc L (.ref a :: S) :=
  own_ret M X hd (fun X hx hret hd hr => retOut X hx hret hna (Or.inr (Or.inr (Or.inr (Or.inr ⟨rfl, ht, rfl⟩)))) hd hr) hP
theorem own_retN {t : FieldType} (M : own_Mx Z a0 K code own mx (some t) rm) (X : own_Sx n0 K T h cl sl) {z z' : Int32} (ht : t = .boolean ∨ t = .byte ∨ t = .char ∨ t = .short) (hd : decode code pc = .ok (.ireturn, 1)) (hz : nar t z = z') (hP : P (some (.int z')) h) : own_Fin n0 K P T pc L (.int z :: S) :=
  own_ret M X hd (fun X hx hret hd hr => retN X hx hret ht hd (by rw [hz]; exact hr)) hP
theorem own_retV (M : own_Mx Z a0 K code own mx none rm) (X : own_Sx n0 K T h cl sl) (hd : decode code pc = .ok (.return_, 1)) (hP : P none h) : own_Fin n0 K P T pc L [] := by
  obtain ⟨p, l, e, R, s, m, args, below, meth, c⟩ := K
  obtain ⟨hx, hby, hml, hown, hret, hlk, hZ, rfl, hw⟩ := M
  obtain ⟨locs, X, hN, rfl, hn, hc, hs⟩ := X
  obtain ⟨fs, hr, hrun, hended, hW, hsame⟩ := X.leave (v := none) (fun _ => rfl) hlk
  exact ⟨_, _, X.returnOut hx hret (hb hby hd) hr, hrun, hended, _, _, rfl, ⟨hP, hN⟩, ⟨_, rfl⟩, hW, hsame.mono hc hs⟩
theorem own_iload (M : own_Mx Z a0 K code own mx ret rm) (X : own_Sx n0 K T h cl sl) {k : Nat} {v : Int32} (hd : decode code pc = .ok (.iload k, 2)) (hl : L[k]? = some (.val (.int v))) (hp : pc + 2 = pc') (hr : own_Fin n0 K P T pc' L (.int v :: S)) : own_Fin n0 K P T pc L (S) := by
  obtain ⟨p, l, e, R, s, m, args, below, meth, c⟩ := K
  obtain ⟨hx, hby, hml, hown, hret, hlk, hZ, rfl, hw⟩ := M
  obtain ⟨locs, X, hN, eT, hn, hcl, hsl⟩ := X
  obtain ⟨s2, o2, st, r⟩ := hr
  subst hp
  exact ⟨s2, o2, XS.iload X.here hx rfl (hb hby hd) hl st, r⟩
theorem own_iloadN (M : own_Mx Z a0 K code own mx ret rm) (X : own_Sx n0 K T h cl sl) {k : Fin 4} {v : Int32} (hd : decode code pc = .ok (.iload_n k, 1)) (hl : L[k.val]? = some (.val (.int v))) (hp : pc + 1 = pc') (hr : own_Fin n0 K P T pc' L (.int v :: S)) : own_Fin n0 K P T pc L (S) := by
  obtain ⟨p, l, e, R, s, m, args, below, meth, c⟩ := K
  obtain ⟨hx, hby, hml, hown, hret, hlk, hZ, rfl, hw⟩ := M
  obtain ⟨locs, X, hN, eT, hn, hcl, hsl⟩ := X
  obtain ⟨s2, o2, st, r⟩ := hr
  subst hp
  exact ⟨s2, o2, XS.iloadN X.here hx rfl (hb hby hd) hl st, r⟩
theorem own_istore (M : own_Mx Z a0 K code own mx ret rm) (X : own_Sx n0 K T h cl sl) {k : Nat} {v : Int32} (hd : decode code pc = .ok (.istore k, 2)) (hl : storeLocals L k (.int v) = some L') (hp : pc + 2 = pc') (hr : own_Fin n0 K P T pc' L' (S)) : own_Fin n0 K P T pc L (.int v :: S) := by
  obtain ⟨p, l, e, R, s, m, args, below, meth, c⟩ := K
  obtain ⟨hx, hby, hml, hown, hret, hlk, hZ, rfl, hw⟩ := M
  obtain ⟨locs, X, hN, eT, hn, hcl, hsl⟩ := X
  obtain ⟨s2, o2, st, r⟩ := hr
  subst hp
  exact ⟨s2, o2, XS.istore X.here hx rfl (hb hby hd) rfl hl st, r⟩
theorem own_istoreN (M : own_Mx Z a0 K code own mx ret rm) (X : own_Sx n0 K T h cl sl) {k : Fin 4} {v : Int32} (hd : decode code pc = .ok (.istore_n k, 1)) (hl : storeLocals L k.val (.int v) = some L') (hp : pc + 1 = pc') (hr : own_Fin n0 K P T pc' L' (S)) : own_Fin n0 K P T pc L (.int v :: S) := by
  obtain ⟨p, l, e, R, s, m, args, below, meth, c⟩ := K
  obtain ⟨hx, hby, hml, hown, hret, hlk, hZ, rfl, hw⟩ := M
  obtain ⟨locs, X, hN, eT, hn, hcl, hsl⟩ := X
  obtain ⟨s2, o2, st, r⟩ := hr
  subst hp
  exact ⟨s2, o2, XS.istoreN X.here hx rfl (hb hby hd) rfl hl st, r⟩
theorem own_lload (M : own_Mx Z a0 K code own mx ret rm) (X : own_Sx n0 K T h cl sl) {k : Nat} {v : Int64} (hd : decode code pc = .ok (.lload k, 2)) (hl : L[k]? = some (.val (.long v))) (hp : pc + 2 = pc') (hr : own_Fin n0 K P T pc' L (.long v :: S)) : own_Fin n0 K P T pc L (S) := by
  obtain ⟨p, l, e, R, s, m, args, below, meth, c⟩ := K
  obtain ⟨hx, hby, hml, hown, hret, hlk, hZ, rfl, hw⟩ := M
  obtain ⟨locs, X, hN, eT, hn, hcl, hsl⟩ := X
  obtain ⟨s2, o2, st, r⟩ := hr
  subst hp
  exact ⟨s2, o2, XS.lload X.here hx rfl (hb hby hd) hl st, r⟩
theorem own_lloadN (M : own_Mx Z a0 K code own mx ret rm) (X : own_Sx n0 K T h cl sl) {k : Fin 4} {v : Int64} (hd : decode code pc = .ok (.lload_n k, 1)) (hl : L[k.val]? = some (.val (.long v))) (hp : pc + 1 = pc') (hr : own_Fin n0 K P T pc' L (.long v :: S)) : own_Fin n0 K P T pc L (S) := by
  obtain ⟨p, l, e, R, s, m, args, below, meth, c⟩ := K
  obtain ⟨hx, hby, hml, hown, hret, hlk, hZ, rfl, hw⟩ := M
  obtain ⟨locs, X, hN, eT, hn, hcl, hsl⟩ := X
  obtain ⟨s2, o2, st, r⟩ := hr
  subst hp
  exact ⟨s2, o2, XS.lloadN X.here hx rfl (hb hby hd) hl st, r⟩
theorem own_lstore (M : own_Mx Z a0 K code own mx ret rm) (X : own_Sx n0 K T h cl sl) {k : Nat} {v : Int64} (hd : decode code pc = .ok (.lstore k, 2)) (hl : storeLocals L k (.long v) = some L') (hp : pc + 2 = pc') (hr : own_Fin n0 K P T pc' L' (S)) : own_Fin n0 K P T pc L (.long v :: S) := by
  obtain ⟨p, l, e, R, s, m, args, below, meth, c⟩ := K
  obtain ⟨hx, hby, hml, hown, hret, hlk, hZ, rfl, hw⟩ := M
  obtain ⟨locs, X, hN, eT, hn, hcl, hsl⟩ := X
  obtain ⟨s2, o2, st, r⟩ := hr
  subst hp
  exact ⟨s2, o2, XS.lstore X.here hx rfl (hb hby hd) rfl hl st, r⟩
theorem own_lstoreN (M : own_Mx Z a0 K code own mx ret rm) (X : own_Sx n0 K T h cl sl) {k : Fin 4} {v : Int64} (hd : decode code pc = .ok (.lstore_n k, 1)) (hl : storeLocals L k.val (.long v) = some L') (hp : pc + 1 = pc') (hr : own_Fin n0 K P T pc' L' (S)) : own_Fin n0 K P T pc L (.long v :: S) := by
  obtain ⟨p, l, e, R, s, m, args, below, meth, c⟩ := K
  obtain ⟨hx, hby, hml, hown, hret, hlk, hZ, rfl, hw⟩ := M
  obtain ⟨locs, X, hN, eT, hn, hcl, hsl⟩ := X
  obtain ⟨s2, o2, st, r⟩ := hr
  subst hp
  exact ⟨s2, o2, XS.lstoreN X.here hx rfl (hb hby hd) rfl hl st, r⟩
theorem own_aload (M : own_Mx Z a0 K code own mx ret rm) (X : own_Sx n0 K T h cl sl) {k : Nat} {v : Value} (hd : decode code pc = .ok (.aload k, 2)) (hl : L[k]? = some (.val v)) (hv : v.isRef = true) (hp : pc + 2 = pc') (hr : own_Fin n0 K P T pc' L (v :: S)) : own_Fin n0 K P T pc L (S) := by
  obtain ⟨p, l, e, R, s, m, args, below, meth, c⟩ := K
  obtain ⟨hx, hby, hml, hown, hret, hlk, hZ, rfl, hw⟩ := M
  obtain ⟨locs, X, hN, eT, hn, hcl, hsl⟩ := X
  obtain ⟨s2, o2, st, r⟩ := hr
  subst hp
  exact ⟨s2, o2, XS.aload X.here hx rfl (hb hby hd) hl hv st, r⟩
theorem own_aloadN (M : own_Mx Z a0 K code own mx ret rm) (X : own_Sx n0 K T h cl sl) {k : Fin 4} {v : Value} (hd : decode code pc = .ok (.aload_n k, 1)) (hl : L[k.val]? = some (.val v)) (hv : v.isRef = true) (hp : pc + 1 = pc') (hr : own_Fin n0 K P T pc' L (v :: S)) : own_Fin n0 K P T pc L (S) := by
  obtain ⟨p, l, e, R, s, m, args, below, meth, c⟩ := K
  obtain ⟨hx, hby, hml, hown, hret, hlk, hZ, rfl, hw⟩ := M
  obtain ⟨locs, X, hN, eT, hn, hcl, hsl⟩ := X
  obtain ⟨s2, o2, st, r⟩ := hr
  subst hp
  exact ⟨s2, o2, XS.aloadN X.here hx rfl (hb hby hd) hl hv st, r⟩
theorem own_astore (M : own_Mx Z a0 K code own mx ret rm) (X : own_Sx n0 K T h cl sl) {k : Nat} {v : Value} (hd : decode code pc = .ok (.astore k, 2)) (hv : v.isRef = true) (hl : storeLocals L k v = some L') (hp : pc + 2 = pc') (hr : own_Fin n0 K P T pc' L' (S)) : own_Fin n0 K P T pc L (v :: S) := by
  obtain ⟨p, l, e, R, s, m, args, below, meth, c⟩ := K
  obtain ⟨hx, hby, hml, hown, hret, hlk, hZ, rfl, hw⟩ := M
  obtain ⟨locs, X, hN, eT, hn, hcl, hsl⟩ := X
  obtain ⟨s2, o2, st, r⟩ := hr
  subst hp
  exact ⟨s2, o2, XS.astore X.here hx rfl (hb hby hd) rfl hv hl st, r⟩
theorem own_astoreN (M : own_Mx Z a0 K code own mx ret rm) (X : own_Sx n0 K T h cl sl) {k : Fin 4} {v : Value} (hd : decode code pc = .ok (.astore_n k, 1)) (hv : v.isRef = true) (hl : storeLocals L k.val v = some L') (hp : pc + 1 = pc') (hr : own_Fin n0 K P T pc' L' (S)) : own_Fin n0 K P T pc L (v :: S) := by
  obtain ⟨p, l, e, R, s, m, args, below, meth, c⟩ := K
  obtain ⟨hx, hby, hml, hown, hret, hlk, hZ, rfl, hw⟩ := M
  obtain ⟨locs, X, hN, eT, hn, hcl, hsl⟩ := X
  obtain ⟨s2, o2, st, r⟩ := hr
  subst hp
  exact ⟨s2, o2, XS.astoreN X.here hx rfl (hb hby hd) rfl hv hl st, r⟩
theorem own_iconst (M : own_Mx Z a0 K code own mx ret rm) (X : own_Sx n0 K T h cl sl) {i : Int} {v : Int32} (hd : decode code pc = .ok (.iconst i, 1)) (hv : Int32.ofInt i = v) (hp : pc + 1 = pc') (hr : own_Fin n0 K P T pc' L (.int v :: S)) : own_Fin n0 K P T pc L (S) := by
  obtain ⟨p, l, e, R, s, m, args, below, meth, c⟩ := K
  obtain ⟨hx, hby, hml, hown, hret, hlk, hZ, rfl, hw⟩ := M
  obtain ⟨locs, X, hN, eT, hn, hcl, hsl⟩ := X
  obtain ⟨s2, o2, st, r⟩ := hr
  subst hp
  subst hv
  exact ⟨s2, o2, XS.iconst X.here hx rfl (hb hby hd) st, r⟩
theorem own_bipush (M : own_Mx Z a0 K code own mx ret rm) (X : own_Sx n0 K T h cl sl) {i : Int} {v : Int32} (hd : decode code pc = .ok (.bipush i, 2)) (hv : (Int8.ofInt i).toInt32 = v) (hp : pc + 2 = pc') (hr : own_Fin n0 K P T pc' L (.int v :: S)) : own_Fin n0 K P T pc L (S) := by
  obtain ⟨p, l, e, R, s, m, args, below, meth, c⟩ := K
  obtain ⟨hx, hby, hml, hown, hret, hlk, hZ, rfl, hw⟩ := M
  obtain ⟨locs, X, hN, eT, hn, hcl, hsl⟩ := X
  obtain ⟨s2, o2, st, r⟩ := hr
  subst hp
  subst hv
  exact ⟨s2, o2, XS.bipush X.here hx rfl (hb hby hd) st, r⟩
theorem own_sipush (M : own_Mx Z a0 K code own mx ret rm) (X : own_Sx n0 K T h cl sl) {i : Int} {v : Int32} (hd : decode code pc = .ok (.sipush i, 3)) (hv : (Int16.ofInt i).toInt32 = v) (hp : pc + 3 = pc') (hr : own_Fin n0 K P T pc' L (.int v :: S)) : own_Fin n0 K P T pc L (S) := by
  obtain ⟨p, l, e, R, s, m, args, below, meth, c⟩ := K
  obtain ⟨hx, hby, hml, hown, hret, hlk, hZ, rfl, hw⟩ := M
  obtain ⟨locs, X, hN, eT, hn, hcl, hsl⟩ := X
  obtain ⟨s2, o2, st, r⟩ := hr
  subst hp
  subst hv
  exact ⟨s2, o2, XS.sipush X.here hx rfl (hb hby hd) st, r⟩
theorem own_lconst (M : own_Mx Z a0 K code own mx ret rm) (X : own_Sx n0 K T h cl sl) {i : Fin 2} {v : Int64} (hd : decode code pc = .ok (.lconst i, 1)) (hv : Int64.ofNat i = v) (hp : pc + 1 = pc') (hr : own_Fin n0 K P T pc' L (.long v :: S)) : own_Fin n0 K P T pc L (S) := by
  obtain ⟨p, l, e, R, s, m, args, below, meth, c⟩ := K
  obtain ⟨hx, hby, hml, hown, hret, hlk, hZ, rfl, hw⟩ := M
  obtain ⟨locs, X, hN, eT, hn, hcl, hsl⟩ := X
  obtain ⟨s2, o2, st, r⟩ := hr
  subst hp
  subst hv
  exact ⟨s2, o2, XS.lconst X.here hx rfl (hb hby hd) st, r⟩
theorem own_aconst_null (M : own_Mx Z a0 K code own mx ret rm) (X : own_Sx n0 K T h cl sl)  (hd : decode code pc = .ok (.aconst_null, 1)) (hp : pc + 1 = pc') (hr : own_Fin n0 K P T pc' L (.null :: S)) : own_Fin n0 K P T pc L (S) := by
  obtain ⟨p, l, e, R, s, m, args, below, meth, c⟩ := K
  obtain ⟨hx, hby, hml, hown, hret, hlk, hZ, rfl, hw⟩ := M
  obtain ⟨locs, X, hN, eT, hn, hcl, hsl⟩ := X
  obtain ⟨s2, o2, st, r⟩ := hr
  subst hp
  exact ⟨s2, o2, XS.aconstNull X.here hx rfl (hb hby hd) st, r⟩
theorem own_iadd (M : own_Mx Z a0 K code own mx ret rm) (X : own_Sx n0 K T h cl sl) {x y : Int32} (hd : decode code pc = .ok (.iadd, 1)) (hp : pc + 1 = pc') (hr : own_Fin n0 K P T pc' L (.int (x + y) :: S)) : own_Fin n0 K P T pc L (.int y :: .int x :: S) := by
  obtain ⟨p, l, e, R, s, m, args, below, meth, c⟩ := K
  obtain ⟨hx, hby, hml, hown, hret, hlk, hZ, rfl, hw⟩ := M
  obtain ⟨locs, X, hN, eT, hn, hcl, hsl⟩ := X
  obtain ⟨s2, o2, st, r⟩ := hr
  subst hp
  exact ⟨s2, o2, XS.iadd X.here hx rfl (hb hby hd) rfl st, r⟩
theorem own_ladd (M : own_Mx Z a0 K code own mx ret rm) (X : own_Sx n0 K T h cl sl) {x y : Int64} (hd : decode code pc = .ok (.ladd, 1)) (hp : pc + 1 = pc') (hr : own_Fin n0 K P T pc' L (.long (x + y) :: S)) : own_Fin n0 K P T pc L (.long y :: .long x :: S) := by
  obtain ⟨p, l, e, R, s, m, args, below, meth, c⟩ := K
  obtain ⟨hx, hby, hml, hown, hret, hlk, hZ, rfl, hw⟩ := M
  obtain ⟨locs, X, hN, eT, hn, hcl, hsl⟩ := X
  obtain ⟨s2, o2, st, r⟩ := hr
  subst hp
  exact ⟨s2, o2, XS.ladd X.here hx rfl (hb hby hd) rfl st, r⟩
theorem own_isub (M : own_Mx Z a0 K code own mx ret rm) (X : own_Sx n0 K T h cl sl) {x y : Int32} (hd : decode code pc = .ok (.isub, 1)) (hp : pc + 1 = pc') (hr : own_Fin n0 K P T pc' L (.int (x - y) :: S)) : own_Fin n0 K P T pc L (.int y :: .int x :: S) := by
  obtain ⟨p, l, e, R, s, m, args, below, meth, c⟩ := K
  obtain ⟨hx, hby, hml, hown, hret, hlk, hZ, rfl, hw⟩ := M
  obtain ⟨locs, X, hN, eT, hn, hcl, hsl⟩ := X
  obtain ⟨s2, o2, st, r⟩ := hr
  subst hp
  exact ⟨s2, o2, XS.isub X.here hx rfl (hb hby hd) rfl st, r⟩
theorem own_lsub (M : own_Mx Z a0 K code own mx ret rm) (X : own_Sx n0 K T h cl sl) {x y : Int64} (hd : decode code pc = .ok (.lsub, 1)) (hp : pc + 1 = pc') (hr : own_Fin n0 K P T pc' L (.long (x - y) :: S)) : own_Fin n0 K P T pc L (.long y :: .long x :: S) := by
  obtain ⟨p, l, e, R, s, m, args, below, meth, c⟩ := K
  obtain ⟨hx, hby, hml, hown, hret, hlk, hZ, rfl, hw⟩ := M
  obtain ⟨locs, X, hN, eT, hn, hcl, hsl⟩ := X
  obtain ⟨s2, o2, st, r⟩ := hr
  subst hp
  exact ⟨s2, o2, XS.lsub X.here hx rfl (hb hby hd) rfl st, r⟩
theorem own_imul (M : own_Mx Z a0 K code own mx ret rm) (X : own_Sx n0 K T h cl sl) {x y : Int32} (hd : decode code pc = .ok (.imul, 1)) (hp : pc + 1 = pc') (hr : own_Fin n0 K P T pc' L (.int (x * y) :: S)) : own_Fin n0 K P T pc L (.int y :: .int x :: S) := by
  obtain ⟨p, l, e, R, s, m, args, below, meth, c⟩ := K
  obtain ⟨hx, hby, hml, hown, hret, hlk, hZ, rfl, hw⟩ := M
  obtain ⟨locs, X, hN, eT, hn, hcl, hsl⟩ := X
  obtain ⟨s2, o2, st, r⟩ := hr
  subst hp
  exact ⟨s2, o2, XS.imul X.here hx rfl (hb hby hd) rfl st, r⟩
theorem own_lmul (M : own_Mx Z a0 K code own mx ret rm) (X : own_Sx n0 K T h cl sl) {x y : Int64} (hd : decode code pc = .ok (.lmul, 1)) (hp : pc + 1 = pc') (hr : own_Fin n0 K P T pc' L (.long (x * y) :: S)) : own_Fin n0 K P T pc L (.long y :: .long x :: S) := by
  obtain ⟨p, l, e, R, s, m, args, below, meth, c⟩ := K
  obtain ⟨hx, hby, hml, hown, hret, hlk, hZ, rfl, hw⟩ := M
  obtain ⟨locs, X, hN, eT, hn, hcl, hsl⟩ := X
  obtain ⟨s2, o2, st, r⟩ := hr
  subst hp
  exact ⟨s2, o2, XS.lmul X.here hx rfl (hb hby hd) rfl st, r⟩
theorem own_iand (M : own_Mx Z a0 K code own mx ret rm) (X : own_Sx n0 K T h cl sl) {x y : Int32} (hd : decode code pc = .ok (.iand, 1)) (hp : pc + 1 = pc') (hr : own_Fin n0 K P T pc' L (.int (x &&& y) :: S)) : own_Fin n0 K P T pc L (.int y :: .int x :: S) := by
  obtain ⟨p, l, e, R, s, m, args, below, meth, c⟩ := K
  obtain ⟨hx, hby, hml, hown, hret, hlk, hZ, rfl, hw⟩ := M
  obtain ⟨locs, X, hN, eT, hn, hcl, hsl⟩ := X
  obtain ⟨s2, o2, st, r⟩ := hr
  subst hp
  exact ⟨s2, o2, XS.iand X.here hx rfl (hb hby hd) rfl st, r⟩
theorem own_land (M : own_Mx Z a0 K code own mx ret rm) (X : own_Sx n0 K T h cl sl) {x y : Int64} (hd : decode code pc = .ok (.land, 1)) (hp : pc + 1 = pc') (hr : own_Fin n0 K P T pc' L (.long (x &&& y) :: S)) : own_Fin n0 K P T pc L (.long y :: .long x :: S) := by
  obtain ⟨p, l, e, R, s, m, args, below, meth, c⟩ := K
  obtain ⟨hx, hby, hml, hown, hret, hlk, hZ, rfl, hw⟩ := M
  obtain ⟨locs, X, hN, eT, hn, hcl, hsl⟩ := X
  obtain ⟨s2, o2, st, r⟩ := hr
  subst hp
  exact ⟨s2, o2, XS.land X.here hx rfl (hb hby hd) rfl st, r⟩
theorem own_ior (M : own_Mx Z a0 K code own mx ret rm) (X : own_Sx n0 K T h cl sl) {x y : Int32} (hd : decode code pc = .ok (.ior, 1)) (hp : pc + 1 = pc') (hr : own_Fin n0 K P T pc' L (.int (x ||| y) :: S)) : own_Fin n0 K P T pc L (.int y :: .int x :: S) := by
  obtain ⟨p, l, e, R, s, m, args, below, meth, c⟩ := K
  obtain ⟨hx, hby, hml, hown, hret, hlk, hZ, rfl, hw⟩ := M
  obtain ⟨locs, X, hN, eT, hn, hcl, hsl⟩ := X
  obtain ⟨s2, o2, st, r⟩ := hr
  subst hp
  exact ⟨s2, o2, XS.ior X.here hx rfl (hb hby hd) rfl st, r⟩
theorem own_lor (M : own_Mx Z a0 K code own mx ret rm) (X : own_Sx n0 K T h cl sl) {x y : Int64} (hd : decode code pc = .ok (.lor, 1)) (hp : pc + 1 = pc') (hr : own_Fin n0 K P T pc' L (.long (x ||| y) :: S)) : own_Fin n0 K P T pc L (.long y :: .long x :: S) := by
  obtain ⟨p, l, e, R, s, m, args, below, meth, c⟩ := K
  obtain ⟨hx, hby, hml, hown, hret, hlk, hZ, rfl, hw⟩ := M
  obtain ⟨locs, X, hN, eT, hn, hcl, hsl⟩ := X
  obtain ⟨s2, o2, st, r⟩ := hr
  subst hp
  exact ⟨s2, o2, XS.lor X.here hx rfl (hb hby hd) rfl st, r⟩
theorem own_ixor (M : own_Mx Z a0 K code own mx ret rm) (X : own_Sx n0 K T h cl sl) {x y : Int32} (hd : decode code pc = .ok (.ixor, 1)) (hp : pc + 1 = pc') (hr : own_Fin n0 K P T pc' L (.int (x ^^^ y) :: S)) : own_Fin n0 K P T pc L (.int y :: .int x :: S) := by
  obtain ⟨p, l, e, R, s, m, args, below, meth, c⟩ := K
  obtain ⟨hx, hby, hml, hown, hret, hlk, hZ, rfl, hw⟩ := M
  obtain ⟨locs, X, hN, eT, hn, hcl, hsl⟩ := X
  obtain ⟨s2, o2, st, r⟩ := hr
  subst hp
  exact ⟨s2, o2, XS.ixor X.here hx rfl (hb hby hd) rfl st, r⟩
theorem own_lxor (M : own_Mx Z a0 K code own mx ret rm) (X : own_Sx n0 K T h cl sl) {x y : Int64} (hd : decode code pc = .ok (.lxor, 1)) (hp : pc + 1 = pc') (hr : own_Fin n0 K P T pc' L (.long (x ^^^ y) :: S)) : own_Fin n0 K P T pc L (.long y :: .long x :: S) := by
  obtain ⟨p, l, e, R, s, m, args, below, meth, c⟩ := K
  obtain ⟨hx, hby, hml, hown, hret, hlk, hZ, rfl, hw⟩ := M
  obtain ⟨locs, X, hN, eT, hn, hcl, hsl⟩ := X
  obtain ⟨s2, o2, st, r⟩ := hr
  subst hp
  exact ⟨s2, o2, XS.lxor X.here hx rfl (hb hby hd) rfl st, r⟩
theorem own_ishl (M : own_Mx Z a0 K code own mx ret rm) (X : own_Sx n0 K T h cl sl) {x y : Int32} (hd : decode code pc = .ok (.ishl, 1)) (hp : pc + 1 = pc') (hr : own_Fin n0 K P T pc' L (.int (x <<< (y &&& 31)) :: S)) : own_Fin n0 K P T pc L (.int y :: .int x :: S) := by
  obtain ⟨p, l, e, R, s, m, args, below, meth, c⟩ := K
  obtain ⟨hx, hby, hml, hown, hret, hlk, hZ, rfl, hw⟩ := M
  obtain ⟨locs, X, hN, eT, hn, hcl, hsl⟩ := X
  obtain ⟨s2, o2, st, r⟩ := hr
  subst hp
  exact ⟨s2, o2, XS.ishl X.here hx rfl (hb hby hd) rfl st, r⟩
theorem own_ishr (M : own_Mx Z a0 K code own mx ret rm) (X : own_Sx n0 K T h cl sl) {x y : Int32} (hd : decode code pc = .ok (.ishr, 1)) (hp : pc + 1 = pc') (hr : own_Fin n0 K P T pc' L (.int (x >>> (y &&& 31)) :: S)) : own_Fin n0 K P T pc L (.int y :: .int x :: S) := by
  obtain ⟨p, l, e, R, s, m, args, below, meth, c⟩ := K
  obtain ⟨hx, hby, hml, hown, hret, hlk, hZ, rfl, hw⟩ := M
  obtain ⟨locs, X, hN, eT, hn, hcl, hsl⟩ := X
  obtain ⟨s2, o2, st, r⟩ := hr
  subst hp
  exact ⟨s2, o2, XS.ishr X.here hx rfl (hb hby hd) rfl st, r⟩
theorem own_iushr (M : own_Mx Z a0 K code own mx ret rm) (X : own_Sx n0 K T h cl sl) {x y : Int32} (hd : decode code pc = .ok (.iushr, 1)) (hp : pc + 1 = pc') (hr : own_Fin n0 K P T pc' L (.int ((x.toUInt32 >>> (y &&& 31).toUInt32).toInt32) :: S)) : own_Fin n0 K P T pc L (.int y :: .int x :: S) := by
  obtain ⟨p, l, e, R, s, m, args, below, meth, c⟩ := K
  obtain ⟨hx, hby, hml, hown, hret, hlk, hZ, rfl, hw⟩ := M
  obtain ⟨locs, X, hN, eT, hn, hcl, hsl⟩ := X
  obtain ⟨s2, o2, st, r⟩ := hr
  subst hp
  exact ⟨s2, o2, XS.iushr X.here hx rfl (hb hby hd) rfl st, r⟩
theorem own_lshl (M : own_Mx Z a0 K code own mx ret rm) (X : own_Sx n0 K T h cl sl) {x : Int64} {y : Int32} (hd : decode code pc = .ok (.lshl, 1)) (hp : pc + 1 = pc') (hr : own_Fin n0 K P T pc' L (.long (x <<< (y &&& 0x3f).toInt64) :: S)) : own_Fin n0 K P T pc L (.int y :: .long x :: S) := by
  obtain ⟨p, l, e, R, s, m, args, below, meth, c⟩ := K
  obtain ⟨hx, hby, hml, hown, hret, hlk, hZ, rfl, hw⟩ := M
  obtain ⟨locs, X, hN, eT, hn, hcl, hsl⟩ := X
  obtain ⟨s2, o2, st, r⟩ := hr
  subst hp
  exact ⟨s2, o2, XS.lshl X.here hx rfl (hb hby hd) rfl st, r⟩
theorem own_lshr (M : own_Mx Z a0 K code own mx ret rm) (X : own_Sx n0 K T h cl sl) {x : Int64} {y : Int32} (hd : decode code pc = .ok (.lshr, 1)) (hp : pc + 1 = pc') (hr : own_Fin n0 K P T pc' L (.long (x >>> (y &&& 0x3f).toInt64) :: S)) : own_Fin n0 K P T pc L (.int y :: .long x :: S) := by
  obtain ⟨p, l, e, R, s, m, args, below, meth, c⟩ := K
  obtain ⟨hx, hby, hml, hown, hret, hlk, hZ, rfl, hw⟩ := M
  obtain ⟨locs, X, hN, eT, hn, hcl, hsl⟩ := X
  obtain ⟨s2, o2, st, r⟩ := hr
  subst hp
  exact ⟨s2, o2, XS.lshr X.here hx rfl (hb hby hd) rfl st, r⟩
theorem own_lushr (M : own_Mx Z a0 K code own mx ret rm) (X : own_Sx n0 K T h cl sl) {x : Int64} {y : Int32} (hd : decode code pc = .ok (.lushr, 1)) (hp : pc + 1 = pc') (hr : own_Fin n0 K P T pc' L (.long ((x.toUInt64 >>> (y &&& 0x3f).toInt64.toUInt64).toInt64) :: S)) : own_Fin n0 K P T pc L (.int y :: .long x :: S) := by
  obtain ⟨p, l, e, R, s, m, args, below, meth, c⟩ := K
  obtain ⟨hx, hby, hml, hown, hret, hlk, hZ, rfl, hw⟩ := M
  obtain ⟨locs, X, hN, eT, hn, hcl, hsl⟩ := X
  obtain ⟨s2, o2, st, r⟩ := hr
  subst hp
  exact ⟨s2, o2, XS.lushr X.here hx rfl (hb hby hd) rfl st, r⟩
theorem own_idiv (M : own_Mx Z a0 K code own mx ret rm) (X : own_Sx n0 K T h cl sl) {x y : Int32} (hd : decode code pc = .ok (.idiv, 1)) (hy : y ≠ 0) (hp : pc + 1 = pc') (hr : own_Fin n0 K P T pc' L (.int (x / y) :: S)) : own_Fin n0 K P T pc L (.int y :: .int x :: S) := by
  obtain ⟨p, l, e, R, s, m, args, below, meth, c⟩ := K
  obtain ⟨hx, hby, hml, hown, hret, hlk, hZ, rfl, hw⟩ := M
  obtain ⟨locs, X, hN, eT, hn, hcl, hsl⟩ := X
  obtain ⟨s2, o2, st, r⟩ := hr
  subst hp
  exact ⟨s2, o2, XS.idiv X.here hx rfl (hb hby hd) rfl hy st, r⟩
theorem own_irem (M : own_Mx Z a0 K code own mx ret rm) (X : own_Sx n0 K T h cl sl) {x y : Int32} (hd : decode code pc = .ok (.irem, 1)) (hy : y ≠ 0) (hp : pc + 1 = pc') (hr : own_Fin n0 K P T pc' L (.int (x % y) :: S)) : own_Fin n0 K P T pc L (.int y :: .int x :: S) := by
  obtain ⟨p, l, e, R, s, m, args, below, meth, c⟩ := K
  obtain ⟨hx, hby, hml, hown, hret, hlk, hZ, rfl, hw⟩ := M
  obtain ⟨locs, X, hN, eT, hn, hcl, hsl⟩ := X
  obtain ⟨s2, o2, st, r⟩ := hr
  subst hp
  exact ⟨s2, o2, iremM X hx rfl (hb hby hd) rfl hy st, r⟩
theorem own_ldiv (M : own_Mx Z a0 K code own mx ret rm) (X : own_Sx n0 K T h cl sl) {x y : Int64} (hd : decode code pc = .ok (.ldiv, 1)) (hy : y ≠ 0) (hp : pc + 1 = pc') (hr : own_Fin n0 K P T pc' L (.long (x / y) :: S)) : own_Fin n0 K P T pc L (.long y :: .long x :: S) := by
  obtain ⟨p, l, e, R, s, m, args, below, meth, c⟩ := K
  obtain ⟨hx, hby, hml, hown, hret, hlk, hZ, rfl, hw⟩ := M
  obtain ⟨locs, X, hN, eT, hn, hcl, hsl⟩ := X
  obtain ⟨s2, o2, st, r⟩ := hr
  subst hp
  exact ⟨s2, o2, XS.ldiv X.here hx rfl (hb hby hd) rfl hy st, r⟩
theorem own_lrem (M : own_Mx Z a0 K code own mx ret rm) (X : own_Sx n0 K T h cl sl) {x y : Int64} (hd : decode code pc = .ok (.lrem, 1)) (hy : y ≠ 0) (hp : pc + 1 = pc') (hr : own_Fin n0 K P T pc' L (.long (x - (x / y) * y) :: S)) : own_Fin n0 K P T pc L (.long y :: .long x :: S) := by
  obtain ⟨p, l, e, R, s, m, args, below, meth, c⟩ := K
  obtain ⟨hx, hby, hml, hown, hret, hlk, hZ, rfl, hw⟩ := M
  obtain ⟨locs, X, hN, eT, hn, hcl, hsl⟩ := X
  obtain ⟨s2, o2, st, r⟩ := hr
  subst hp
  exact ⟨s2, o2, XS.lrem X.here hx rfl (hb hby hd) rfl hy st, r⟩
theorem own_ineg (M : own_Mx Z a0 K code own mx ret rm) (X : own_Sx n0 K T h cl sl) {x : Int32} (hd : decode code pc = .ok (.ineg, 1)) (hp : pc + 1 = pc') (hr : own_Fin n0 K P T pc' L (.int (-x) :: S)) : own_Fin n0 K P T pc L (.int x :: S) := by
  obtain ⟨p, l, e, R, s, m, args, below, meth, c⟩ := K
  obtain ⟨hx, hby, hml, hown, hret, hlk, hZ, rfl, hw⟩ := M
  obtain ⟨locs, X, hN, eT, hn, hcl, hsl⟩ := X
  obtain ⟨s2, o2, st, r⟩ := hr
  subst hp
  exact ⟨s2, o2, XS.ineg X.here hx rfl (hb hby hd) rfl st, r⟩
theorem own_lneg (M : own_Mx Z a0 K code own mx ret rm) (X : own_Sx n0 K T h cl sl) {x : Int64} (hd : decode code pc = .ok (.lneg, 1)) (hp : pc + 1 = pc') (hr : own_Fin n0 K P T pc' L (.long (-x) :: S)) : own_Fin n0 K P T pc L (.long x :: S) := by
  obtain ⟨p, l, e, R, s, m, args, below, meth, c⟩ := K
  obtain ⟨hx, hby, hml, hown, hret, hlk, hZ, rfl, hw⟩ := M
  obtain ⟨locs, X, hN, eT, hn, hcl, hsl⟩ := X
  obtain ⟨s2, o2, st, r⟩ := hr
  subst hp
  exact ⟨s2, o2, XS.lneg X.here hx rfl (hb hby hd) rfl st, r⟩
theorem own_i2l (M : own_Mx Z a0 K code own mx ret rm) (X : own_Sx n0 K T h cl sl) {x : Int32} (hd : decode code pc = .ok (.i2l, 1)) (hp : pc + 1 = pc') (hr : own_Fin n0 K P T pc' L (.long (x.toInt64) :: S)) : own_Fin n0 K P T pc L (.int x :: S) := by
  obtain ⟨p, l, e, R, s, m, args, below, meth, c⟩ := K
  obtain ⟨hx, hby, hml, hown, hret, hlk, hZ, rfl, hw⟩ := M
  obtain ⟨locs, X, hN, eT, hn, hcl, hsl⟩ := X
  obtain ⟨s2, o2, st, r⟩ := hr
  subst hp
  exact ⟨s2, o2, XS.i2l X.here hx rfl (hb hby hd) rfl st, r⟩
theorem own_l2i (M : own_Mx Z a0 K code own mx ret rm) (X : own_Sx n0 K T h cl sl) {x : Int64} (hd : decode code pc = .ok (.l2i, 1)) (hp : pc + 1 = pc') (hr : own_Fin n0 K P T pc' L (.int (x.toInt32) :: S)) : own_Fin n0 K P T pc L (.long x :: S) := by
  obtain ⟨p, l, e, R, s, m, args, below, meth, c⟩ := K
  obtain ⟨hx, hby, hml, hown, hret, hlk, hZ, rfl, hw⟩ := M
  obtain ⟨locs, X, hN, eT, hn, hcl, hsl⟩ := X
  obtain ⟨s2, o2, st, r⟩ := hr
  subst hp
  exact ⟨s2, o2, XS.l2i X.here hx rfl (hb hby hd) rfl st, r⟩
theorem own_i2b (M : own_Mx Z a0 K code own mx ret rm) (X : own_Sx n0 K T h cl sl) {x : Int32} (hd : decode code pc = .ok (.i2b, 1)) (hp : pc + 1 = pc') (hr : own_Fin n0 K P T pc' L (.int (x.toInt8.toInt32) :: S)) : own_Fin n0 K P T pc L (.int x :: S) := by
  obtain ⟨p, l, e, R, s, m, args, below, meth, c⟩ := K
  obtain ⟨hx, hby, hml, hown, hret, hlk, hZ, rfl, hw⟩ := M
  obtain ⟨locs, X, hN, eT, hn, hcl, hsl⟩ := X
  obtain ⟨s2, o2, st, r⟩ := hr
  subst hp
  exact ⟨s2, o2, XS.i2b X.here hx rfl (hb hby hd) rfl st, r⟩
theorem own_i2s (M : own_Mx Z a0 K code own mx ret rm) (X : own_Sx n0 K T h cl sl) {x : Int32} (hd : decode code pc = .ok (.i2s, 1)) (hp : pc + 1 = pc') (hr : own_Fin n0 K P T pc' L (.int (x.toInt16.toInt32) :: S)) : own_Fin n0 K P T pc L (.int x :: S) := by
  obtain ⟨p, l, e, R, s, m, args, below, meth, c⟩ := K
  obtain ⟨hx, hby, hml, hown, hret, hlk, hZ, rfl, hw⟩ := M
  obtain ⟨locs, X, hN, eT, hn, hcl, hsl⟩ := X
  obtain ⟨s2, o2, st, r⟩ := hr
  subst hp
  exact ⟨s2, o2, XS.i2s X.here hx rfl (hb hby hd) rfl st, r⟩
theorem own_i2c (M : own_Mx Z a0 K code own mx ret rm) (X : own_Sx n0 K T h cl sl) {x : Int32} (hd : decode code pc = .ok (.i2c, 1)) (hp : pc + 1 = pc') (hr : own_Fin n0 K P T pc' L (.int (x.toUInt32.toUInt16.toUInt32.toInt32) :: S)) : own_Fin n0 K P T pc L (.int x :: S) := by
  obtain ⟨p, l, e, R, s, m, args, below, meth, c⟩ := K
  obtain ⟨hx, hby, hml, hown, hret, hlk, hZ, rfl, hw⟩ := M
  obtain ⟨locs, X, hN, eT, hn, hcl, hsl⟩ := X
  obtain ⟨s2, o2, st, r⟩ := hr
  subst hp
  exact ⟨s2, o2, XS.i2c X.here hx rfl (hb hby hd) rfl st, r⟩
theorem own_iinc (M : own_Mx Z a0 K code own mx ret rm) (X : own_Sx n0 K T h cl sl) {k : Nat} {i : Int} {x v : Int32} (hd : decode code pc = .ok (.iinc k i, 3)) (hl : L[k]? = some (.val (.int x))) (hv : x + Int32.ofInt i = v) (hl' : storeLocals L k (.int v) = some L') (hp : pc + 3 = pc') (hr : own_Fin n0 K P T pc' L' (S)) : own_Fin n0 K P T pc L (S) := by
  obtain ⟨p, l, e, R, s, m, args, below, meth, c⟩ := K
  obtain ⟨hx, hby, hml, hown, hret, hlk, hZ, rfl, hw⟩ := M
  obtain ⟨locs, X, hN, eT, hn, hcl, hsl⟩ := X
  obtain ⟨s2, o2, st, r⟩ := hr
  subst hp
  subst hv
  exact ⟨s2, o2, XS.iinc X.here hx rfl (hb hby hd) hl hl' st, r⟩
theorem own_dup (M : own_Mx Z a0 K code own mx ret rm) (X : own_Sx n0 K T h cl sl) {v : Value} (hd : decode code pc = .ok (.dup, 1)) (hc : v.category = 1) (hp : pc + 1 = pc') (hr : own_Fin n0 K P T pc' L (v :: v :: S)) : own_Fin n0 K P T pc L (v :: S) := by
  obtain ⟨p, l, e, R, s, m, args, below, meth, c⟩ := K
  obtain ⟨hx, hby, hml, hown, hret, hlk, hZ, rfl, hw⟩ := M
  obtain ⟨locs, X, hN, eT, hn, hcl, hsl⟩ := X
  obtain ⟨s2, o2, st, r⟩ := hr
  subst hp
  exact ⟨s2, o2, XS.dup X.here hx rfl (hb hby hd) rfl hc st, r⟩
theorem own_pop (M : own_Mx Z a0 K code own mx ret rm) (X : own_Sx n0 K T h cl sl) {v : Value} (hd : decode code pc = .ok (.pop, 1)) (hc : v.category = 1) (hp : pc + 1 = pc') (hr : own_Fin n0 K P T pc' L (S)) : own_Fin n0 K P T pc L (v :: S) := by
  obtain ⟨p, l, e, R, s, m, args, below, meth, c⟩ := K
  obtain ⟨hx, hby, hml, hown, hret, hlk, hZ, rfl, hw⟩ := M
  obtain ⟨locs, X, hN, eT, hn, hcl, hsl⟩ := X
  obtain ⟨s2, o2, st, r⟩ := hr
  subst hp
  exact ⟨s2, o2, XS.pop X.here hx rfl (hb hby hd) rfl hc st, r⟩
theorem own_dup_x1 (M : own_Mx Z a0 K code own mx ret rm) (X : own_Sx n0 K T h cl sl) {v w : Value} (hd : decode code pc = .ok (.dup_x1, 1)) (hc : v.category = 1) (hc' : w.category = 1) (hp : pc + 1 = pc') (hr : own_Fin n0 K P T pc' L (v :: w :: v :: S)) : own_Fin n0 K P T pc L (v :: w :: S) := by
  obtain ⟨p, l, e, R, s, m, args, below, meth, c⟩ := K
  obtain ⟨hx, hby, hml, hown, hret, hlk, hZ, rfl, hw⟩ := M
  obtain ⟨locs, X, hN, eT, hn, hcl, hsl⟩ := X
  obtain ⟨s2, o2, st, r⟩ := hr
  subst hp
  exact ⟨s2, o2, XS.dupX1 X.here hx rfl (hb hby hd) rfl hc hc' st, r⟩
theorem own_dup2 (M : own_Mx Z a0 K code own mx ret rm) (X : own_Sx n0 K T h cl sl) {v w : Value} (hd : decode code pc = .ok (.dup2, 1)) (hc : v.category = 1) (hc' : w.category = 1) (hp : pc + 1 = pc') (hr : own_Fin n0 K P T pc' L (v :: w :: v :: w :: S)) : own_Fin n0 K P T pc L (v :: w :: S) := by
  obtain ⟨p, l, e, R, s, m, args, below, meth, c⟩ := K
  obtain ⟨hx, hby, hml, hown, hret, hlk, hZ, rfl, hw⟩ := M
  obtain ⟨locs, X, hN, eT, hn, hcl, hsl⟩ := X
  obtain ⟨s2, o2, st, r⟩ := hr
  subst hp
  exact ⟨s2, o2, XT.dup2 X.here hx rfl (hb hby hd) rfl hc hc' st, r⟩
theorem own_goto (M : own_Mx Z a0 K code own mx ret rm) (X : own_Sx n0 K T h cl sl) {o : Int} (hd : decode code pc = .ok (.goto o, 3)) (ho : 0 ≤ (pc : Int) + o) (hp : ((pc : Int) + o).toNat = pc') (hr : own_Fin n0 K P T pc' L S) : own_Fin n0 K P T pc L S := by
  obtain ⟨p, l, e, R, s, m, args, below, meth, c⟩ := K
  obtain ⟨hx, hby, hml, hown, hret, hlk, hZ, rfl, hw⟩ := M
  obtain ⟨locs, X, hN, eT, hn, hcl, hsl⟩ := X
  obtain ⟨s2, o2, st, r⟩ := hr
  exact ⟨s2, o2, XS.goto X.here hx rfl (pc0 := pc) rfl (hb hby hd) ho hp st, r⟩
theorem own_ldc (M : own_Mx Z a0 K code own mx ret rm) (X : own_Sx n0 K T h cl sl) {k : Nat} {v : Int32} (w : (Jvm.Cond.constant own k v).before a0 Z = true) (hd : decode code pc = .ok (.ldc k, 2)) (hp : pc + 2 = pc') (hr : own_Fin n0 K P T pc' L (.int v :: S)) : own_Fin n0 K P T pc L (S) := by
  obtain ⟨p, l, e, R, s, m, args, below, meth, c⟩ := K
  obtain ⟨hx, hby, hml, hown, hret, hlk, hZ, rfl, hw⟩ := M
  obtain ⟨locs, X, hN, eT, hn, hcl, hsl⟩ := X
  obtain ⟨s2, o2, st, r⟩ := hr
  subst hp
  exact ⟨s2, o2, X.ldcInt hx hown (mvT hZ w) (g := mkF m pc L S) rfl (hb hby hd) _ st, r⟩
theorem own_ldc_w (M : own_Mx Z a0 K code own mx ret rm) (X : own_Sx n0 K T h cl sl) {k : Nat} {v : Int32} (w : (Jvm.Cond.constant own k v).before a0 Z = true) (hd : decode code pc = .ok (.ldc_w k, 3)) (hp : pc + 3 = pc') (hr : own_Fin n0 K P T pc' L (.int v :: S)) : own_Fin n0 K P T pc L (S) := by
  obtain ⟨p, l, e, R, s, m, args, below, meth, c⟩ := K
  obtain ⟨hx, hby, hml, hown, hret, hlk, hZ, rfl, hw⟩ := M
  obtain ⟨locs, X, hN, eT, hn, hcl, hsl⟩ := X
  obtain ⟨s2, o2, st, r⟩ := hr
  subst hp
  exact ⟨s2, o2, X.ldcwInt hx hown (mvT hZ w) (g := mkF m pc L S) rfl (hb hby hd) _ st, r⟩
theorem own_ldc2_w (M : own_Mx Z a0 K code own mx ret rm) (X : own_Sx n0 K T h cl sl) {k : Nat} {v : Int64} (w : (Jvm.Cond.constantLong own k v).before a0 Z = true) (hd : decode code pc = .ok (.ldc2_w k, 3)) (hp : pc + 3 = pc') (hr : own_Fin n0 K P T pc' L (.long v :: S)) : own_Fin n0 K P T pc L (S) := by
  obtain ⟨p, l, e, R, s, m, args, below, meth, c⟩ := K
  obtain ⟨hx, hby, hml, hown, hret, hlk, hZ, rfl, hw⟩ := M
  obtain ⟨locs, X, hN, eT, hn, hcl, hsl⟩ := X
  obtain ⟨s2, o2, st, r⟩ := hr
  subst hp
  exact ⟨s2, o2, X.ldc2Long hx hown (mvT hZ w) (g := mkF m pc L S) rfl (hb hby hd) _ st, r⟩
theorem own_icmp_lt (M : own_Mx Z a0 K code own mx ret rm) (X : own_Sx n0 K T h cl sl) {x y : Int32} {o : Int} {pcY pcN : Nat} (hd : decode code pc = .ok (.if_icmp .lt o, 3)) (ho : 0 ≤ (pc : Int) + o) (hY : ((pc : Int) + o).toNat = pcY) (hpN : pc + 3 = pcN) (yes : x < y → own_Fin n0 K P T pcY L S) (no : ¬ x < y → own_Fin n0 K P T pcN L S) : own_Fin n0 K P T pc L (.int y :: .int x :: S) := by
  obtain ⟨p, l, e, R, s, m, args, below, meth, c⟩ := K
  obtain ⟨hx, hby, hml, hown, hret, hlk, hZ, rfl, hw⟩ := M
  obtain ⟨locs, X, hN, eT, hn, hcl, hsl⟩ := X
  subst hpN
  by_cases q : x < y
  · obtain ⟨s2, o2, st, r⟩ := yes q
    exact ⟨s2, o2, XS.icmpYes X.here hx rfl (pc0 := pc) rfl (hb hby hd) rfl (tlt q).1 ho hY st, r⟩
  · obtain ⟨s2, o2, st, r⟩ := no q
    exact ⟨s2, o2, XS.icmpNo X.here hx rfl (hb hby hd) rfl (flt q).1 st, r⟩
theorem own_if_lt (M : own_Mx Z a0 K code own mx ret rm) (X : own_Sx n0 K T h cl sl) {x : Int32} {o : Int} {pcY pcN : Nat} (hd : decode code pc = .ok (.ifCond .lt o, 3)) (ho : 0 ≤ (pc : Int) + o) (hY : ((pc : Int) + o).toNat = pcY) (hpN : pc + 3 = pcN) (yes : x < 0 → own_Fin n0 K P T pcY L S) (no : ¬ x < 0 → own_Fin n0 K P T pcN L S) : own_Fin n0 K P T pc L (.int x :: S) := by
  obtain ⟨p, l, e, R, s, m, args, below, meth, c⟩ := K
  obtain ⟨hx, hby, hml, hown, hret, hlk, hZ, rfl, hw⟩ := M
  obtain ⟨locs, X, hN, eT, hn, hcl, hsl⟩ := X
  subst hpN
  by_cases q : x < 0
  · obtain ⟨s2, o2, st, r⟩ := yes q
    exact ⟨s2, o2, XS.ifYes X.here hx rfl (pc0 := pc) rfl (hb hby hd) rfl ((if0 _ _).trans (tlt q).1) ho hY st, r⟩
  · obtain ⟨s2, o2, st, r⟩ := no q
    exact ⟨s2, o2, XS.ifNo X.here hx rfl (hb hby hd) rfl ((if0 _ _).trans (flt q).1) st, r⟩
theorem own_lcmp_lt (M : own_Mx Z a0 K code own mx ret rm) (X : own_Sx n0 K T h cl sl) {x y : Int64} {pc1 : Nat} {o : Int} {pcY pcN : Nat} (hdc : decode code pc = .ok (.lcmp, 1)) (h1 : pc + 1 = pc1) (hd : decode code pc1 = .ok (.ifCond .lt o, 3)) (ho : 0 ≤ (pc1 : Int) + o) (hY : ((pc1 : Int) + o).toNat = pcY) (hpN : pc1 + 3 = pcN) (yes : x < y → own_Fin n0 K P T pcY L S) (no : ¬ x < y → own_Fin n0 K P T pcN L S) : own_Fin n0 K P T pc L (.long y :: .long x :: S) := by
  obtain ⟨p, l, e, R, s, m, args, below, meth, c⟩ := K
  obtain ⟨hx, hby, hml, hown, hret, hlk, hZ, rfl, hw⟩ := M
  obtain ⟨locs, X, hN, eT, hn, hcl, hsl⟩ := X
  subst hpN h1
  by_cases q : x < y
  · obtain ⟨s2, o2, st, r⟩ := yes q
    exact ⟨s2, o2, XS.lcmp X.here hx rfl (hb hby hdc) rfl (XS.ifYes (g := mkF m (pc + 1) L (.int (lcmpW x y) :: S)) X.here hx rfl (pc0 := pc + 1) rfl (hb hby hd) rfl ((if0 _ _).trans (tlt ((lw_lt x y).mpr q)).1) ho hY st), r⟩
  · obtain ⟨s2, o2, st, r⟩ := no q
    exact ⟨s2, o2, XS.lcmp X.here hx rfl (hb hby hdc) rfl (XS.ifNo (g := mkF m (pc + 1) L (.int (lcmpW x y) :: S)) X.here hx rfl (hb hby hd) rfl ((if0 _ _).trans (flt (fun z => q ((lw_lt x y).mp z))).1) st), r⟩
theorem own_icmp_ge (M : own_Mx Z a0 K code own mx ret rm) (X : own_Sx n0 K T h cl sl) {x y : Int32} {o : Int} {pcY pcN : Nat} (hd : decode code pc = .ok (.if_icmp .ge o, 3)) (ho : 0 ≤ (pc : Int) + o) (hY : ((pc : Int) + o).toNat = pcY) (hpN : pc + 3 = pcN) (yes : ¬ x < y → own_Fin n0 K P T pcY L S) (no : x < y → own_Fin n0 K P T pcN L S) : own_Fin n0 K P T pc L (.int y :: .int x :: S) := by
  obtain ⟨p, l, e, R, s, m, args, below, meth, c⟩ := K
  obtain ⟨hx, hby, hml, hown, hret, hlk, hZ, rfl, hw⟩ := M
  obtain ⟨locs, X, hN, eT, hn, hcl, hsl⟩ := X
  subst hpN
  by_cases q : x < y
  · obtain ⟨s2, o2, st, r⟩ := no q
    exact ⟨s2, o2, XS.icmpNo X.here hx rfl (hb hby hd) rfl (tlt q).2.1 st, r⟩
  · obtain ⟨s2, o2, st, r⟩ := yes q
    exact ⟨s2, o2, XS.icmpYes X.here hx rfl (pc0 := pc) rfl (hb hby hd) rfl (flt q).2.1 ho hY st, r⟩
theorem own_if_ge (M : own_Mx Z a0 K code own mx ret rm) (X : own_Sx n0 K T h cl sl) {x : Int32} {o : Int} {pcY pcN : Nat} (hd : decode code pc = .ok (.ifCond .ge o, 3)) (ho : 0 ≤ (pc : Int) + o) (hY : ((pc : Int) + o).toNat = pcY) (hpN : pc + 3 = pcN) (yes : ¬ x < 0 → own_Fin n0 K P T pcY L S) (no : x < 0 → own_Fin n0 K P T pcN L S) : own_Fin n0 K P T pc L (.int x :: S) := by
  obtain ⟨p, l, e, R, s, m, args, below, meth, c⟩ := K
  obtain ⟨hx, hby, hml, hown, hret, hlk, hZ, rfl, hw⟩ := M
  obtain ⟨locs, X, hN, eT, hn, hcl, hsl⟩ := X
  subst hpN
  by_cases q : x < 0
  · obtain ⟨s2, o2, st, r⟩ := no q
    exact ⟨s2, o2, XS.ifNo X.here hx rfl (hb hby hd) rfl ((if0 _ _).trans (tlt q).2.1) st, r⟩
  · obtain ⟨s2, o2, st, r⟩ := yes q
    exact ⟨s2, o2, XS.ifYes X.here hx rfl (pc0 := pc) rfl (hb hby hd) rfl ((if0 _ _).trans (flt q).2.1) ho hY st, r⟩
theorem own_lcmp_ge (M : own_Mx Z a0 K code own mx ret rm) (X : own_Sx n0 K T h cl sl) {x y : Int64} {pc1 : Nat} {o : Int} {pcY pcN : Nat} (hdc : decode code pc = .ok (.lcmp, 1)) (h1 : pc + 1 = pc1) (hd : decode code pc1 = .ok (.ifCond .ge o, 3)) (ho : 0 ≤ (pc1 : Int) + o) (hY : ((pc1 : Int) + o).toNat = pcY) (hpN : pc1 + 3 = pcN) (yes : ¬ x < y → own_Fin n0 K P T pcY L S) (no : x < y → own_Fin n0 K P T pcN L S) : own_Fin n0 K P T pc L (.long y :: .long x :: S) := by
  obtain ⟨p, l, e, R, s, m, args, below, meth, c⟩ := K
  obtain ⟨hx, hby, hml, hown, hret, hlk, hZ, rfl, hw⟩ := M
  obtain ⟨locs, X, hN, eT, hn, hcl, hsl⟩ := X
  subst hpN h1
  by_cases q : x < y
  · obtain ⟨s2, o2, st, r⟩ := no q
    exact ⟨s2, o2, XS.lcmp X.here hx rfl (hb hby hdc) rfl (XS.ifNo (g := mkF m (pc + 1) L (.int (lcmpW x y) :: S)) X.here hx rfl (hb hby hd) rfl ((if0 _ _).trans (tlt ((lw_lt x y).mpr q)).2.1) st), r⟩
  · obtain ⟨s2, o2, st, r⟩ := yes q
    exact ⟨s2, o2, XS.lcmp X.here hx rfl (hb hby hdc) rfl (XS.ifYes (g := mkF m (pc + 1) L (.int (lcmpW x y) :: S)) X.here hx rfl (pc0 := pc + 1) rfl (hb hby hd) rfl ((if0 _ _).trans (flt (fun z => q ((lw_lt x y).mp z))).2.1) ho hY st), r⟩
theorem own_icmp_gt (M : own_Mx Z a0 K code own mx ret rm) (X : own_Sx n0 K T h cl sl) {x y : Int32} {o : Int} {pcY pcN : Nat} (hd : decode code pc = .ok (.if_icmp .gt o, 3)) (ho : 0 ≤ (pc : Int) + o) (hY : ((pc : Int) + o).toNat = pcY) (hpN : pc + 3 = pcN) (yes : y < x → own_Fin n0 K P T pcY L S) (no : ¬ y < x → own_Fin n0 K P T pcN L S) : own_Fin n0 K P T pc L (.int y :: .int x :: S) := by
  obtain ⟨p, l, e, R, s, m, args, below, meth, c⟩ := K
  obtain ⟨hx, hby, hml, hown, hret, hlk, hZ, rfl, hw⟩ := M
  obtain ⟨locs, X, hN, eT, hn, hcl, hsl⟩ := X
  subst hpN
  by_cases q : y < x
  · obtain ⟨s2, o2, st, r⟩ := yes q
    exact ⟨s2, o2, XS.icmpYes X.here hx rfl (pc0 := pc) rfl (hb hby hd) rfl (tlt q).2.2.1 ho hY st, r⟩
  · obtain ⟨s2, o2, st, r⟩ := no q
    exact ⟨s2, o2, XS.icmpNo X.here hx rfl (hb hby hd) rfl (flt q).2.2.1 st, r⟩
theorem own_if_gt (M : own_Mx Z a0 K code own mx ret rm) (X : own_Sx n0 K T h cl sl) {x : Int32} {o : Int} {pcY pcN : Nat} (hd : decode code pc = .ok (.ifCond .gt o, 3)) (ho : 0 ≤ (pc : Int) + o) (hY : ((pc : Int) + o).toNat = pcY) (hpN : pc + 3 = pcN) (yes : 0 < x → own_Fin n0 K P T pcY L S) (no : ¬ 0 < x → own_Fin n0 K P T pcN L S) : own_Fin n0 K P T pc L (.int x :: S) := by
  obtain ⟨p, l, e, R, s, m, args, below, meth, c⟩ := K
  obtain ⟨hx, hby, hml, hown, hret, hlk, hZ, rfl, hw⟩ := M
  obtain ⟨locs, X, hN, eT, hn, hcl, hsl⟩ := X
  subst hpN
  by_cases q : 0 < x
  · obtain ⟨s2, o2, st, r⟩ := yes q
    exact ⟨s2, o2, XS.ifYes X.here hx rfl (pc0 := pc) rfl (hb hby hd) rfl ((if0 _ _).trans (tlt q).2.2.1) ho hY st, r⟩
  · obtain ⟨s2, o2, st, r⟩ := no q
    exact ⟨s2, o2, XS.ifNo X.here hx rfl (hb hby hd) rfl ((if0 _ _).trans (flt q).2.2.1) st, r⟩
theorem own_lcmp_gt (M : own_Mx Z a0 K code own mx ret rm) (X : own_Sx n0 K T h cl sl) {x y : Int64} {pc1 : Nat} {o : Int} {pcY pcN : Nat} (hdc : decode code pc = .ok (.lcmp, 1)) (h1 : pc + 1 = pc1) (hd : decode code pc1 = .ok (.ifCond .gt o, 3)) (ho : 0 ≤ (pc1 : Int) + o) (hY : ((pc1 : Int) + o).toNat = pcY) (hpN : pc1 + 3 = pcN) (yes : y < x → own_Fin n0 K P T pcY L S) (no : ¬ y < x → own_Fin n0 K P T pcN L S) : own_Fin n0 K P T pc L (.long y :: .long x :: S) := by
  obtain ⟨p, l, e, R, s, m, args, below, meth, c⟩ := K
  obtain ⟨hx, hby, hml, hown, hret, hlk, hZ, rfl, hw⟩ := M
  obtain ⟨locs, X, hN, eT, hn, hcl, hsl⟩ := X
  subst hpN h1
  by_cases q : y < x
  · obtain ⟨s2, o2, st, r⟩ := yes q
    exact ⟨s2, o2, XS.lcmp X.here hx rfl (hb hby hdc) rfl (XS.ifYes (g := mkF m (pc + 1) L (.int (lcmpW x y) :: S)) X.here hx rfl (pc0 := pc + 1) rfl (hb hby hd) rfl ((if0 _ _).trans (tlt ((lw_gt x y).mpr q)).2.2.1) ho hY st), r⟩
  · obtain ⟨s2, o2, st, r⟩ := no q
    exact ⟨s2, o2, XS.lcmp X.here hx rfl (hb hby hdc) rfl (XS.ifNo (g := mkF m (pc + 1) L (.int (lcmpW x y) :: S)) X.here hx rfl (hb hby hd) rfl ((if0 _ _).trans (flt (fun z => q ((lw_gt x y).mp z))).2.2.1) st), r⟩
theorem own_icmp_le (M : own_Mx Z a0 K code own mx ret rm) (X : own_Sx n0 K T h cl sl) {x y : Int32} {o : Int} {pcY pcN : Nat} (hd : decode code pc = .ok (.if_icmp .le o, 3)) (ho : 0 ≤ (pc : Int) + o) (hY : ((pc : Int) + o).toNat = pcY) (hpN : pc + 3 = pcN) (yes : ¬ y < x → own_Fin n0 K P T pcY L S) (no : y < x → own_Fin n0 K P T pcN L S) : own_Fin n0 K P T pc L (.int y :: .int x :: S) := by
  obtain ⟨p, l, e, R, s, m, args, below, meth, c⟩ := K
  obtain ⟨hx, hby, hml, hown, hret, hlk, hZ, rfl, hw⟩ := M
  obtain ⟨locs, X, hN, eT, hn, hcl, hsl⟩ := X
  subst hpN
  by_cases q : y < x
  · obtain ⟨s2, o2, st, r⟩ := no q
    exact ⟨s2, o2, XS.icmpNo X.here hx rfl (hb hby hd) rfl (tlt q).2.2.2 st, r⟩
  · obtain ⟨s2, o2, st, r⟩ := yes q
    exact ⟨s2, o2, XS.icmpYes X.here hx rfl (pc0 := pc) rfl (hb hby hd) rfl (flt q).2.2.2 ho hY st, r⟩
theorem own_if_le (M : own_Mx Z a0 K code own mx ret rm) (X : own_Sx n0 K T h cl sl) {x : Int32} {o : Int} {pcY pcN : Nat} (hd : decode code pc = .ok (.ifCond .le o, 3)) (ho : 0 ≤ (pc : Int) + o) (hY : ((pc : Int) + o).toNat = pcY) (hpN : pc + 3 = pcN) (yes : ¬ 0 < x → own_Fin n0 K P T pcY L S) (no : 0 < x → own_Fin n0 K P T pcN L S) : own_Fin n0 K P T pc L (.int x :: S) := by
  obtain ⟨p, l, e, R, s, m, args, below, meth, c⟩ := K
  obtain ⟨hx, hby, hml, hown, hret, hlk, hZ, rfl, hw⟩ := M
  obtain ⟨locs, X, hN, eT, hn, hcl, hsl⟩ := X
  subst hpN
  by_cases q : 0 < x
  · obtain ⟨s2, o2, st, r⟩ := no q
    exact ⟨s2, o2, XS.ifNo X.here hx rfl (hb hby hd) rfl ((if0 _ _).trans (tlt q).2.2.2) st, r⟩
  · obtain ⟨s2, o2, st, r⟩ := yes q
    exact ⟨s2, o2, XS.ifYes X.here hx rfl (pc0 := pc) rfl (hb hby hd) rfl ((if0 _ _).trans (flt q).2.2.2) ho hY st, r⟩
theorem own_lcmp_le (M : own_Mx Z a0 K code own mx ret rm) (X : own_Sx n0 K T h cl sl) {x y : Int64} {pc1 : Nat} {o : Int} {pcY pcN : Nat} (hdc : decode code pc = .ok (.lcmp, 1)) (h1 : pc + 1 = pc1) (hd : decode code pc1 = .ok (.ifCond .le o, 3)) (ho : 0 ≤ (pc1 : Int) + o) (hY : ((pc1 : Int) + o).toNat = pcY) (hpN : pc1 + 3 = pcN) (yes : ¬ y < x → own_Fin n0 K P T pcY L S) (no : y < x → own_Fin n0 K P T pcN L S) : own_Fin n0 K P T pc L (.long y :: .long x :: S) := by
  obtain ⟨p, l, e, R, s, m, args, below, meth, c⟩ := K
  obtain ⟨hx, hby, hml, hown, hret, hlk, hZ, rfl, hw⟩ := M
  obtain ⟨locs, X, hN, eT, hn, hcl, hsl⟩ := X
  subst hpN h1
  by_cases q : y < x
  · obtain ⟨s2, o2, st, r⟩ := no q
    exact ⟨s2, o2, XS.lcmp X.here hx rfl (hb hby hdc) rfl (XS.ifNo (g := mkF m (pc + 1) L (.int (lcmpW x y) :: S)) X.here hx rfl (hb hby hd) rfl ((if0 _ _).trans (tlt ((lw_gt x y).mpr q)).2.2.2) st), r⟩
  · obtain ⟨s2, o2, st, r⟩ := yes q
    exact ⟨s2, o2, XS.lcmp X.here hx rfl (hb hby hdc) rfl (XS.ifYes (g := mkF m (pc + 1) L (.int (lcmpW x y) :: S)) X.here hx rfl (pc0 := pc + 1) rfl (hb hby hd) rfl ((if0 _ _).trans (flt (fun z => q ((lw_gt x y).mp z))).2.2.2) ho hY st), r⟩
theorem own_icmp_eq (M : own_Mx Z a0 K code own mx ret rm) (X : own_Sx n0 K T h cl sl) {x y : Int32} {o : Int} {pcY pcN : Nat} (hd : decode code pc = .ok (.if_icmp .eq o, 3)) (ho : 0 ≤ (pc : Int) + o) (hY : ((pc : Int) + o).toNat = pcY) (hpN : pc + 3 = pcN) (yes : x = y → own_Fin n0 K P T pcY L S) (no : ¬ x = y → own_Fin n0 K P T pcN L S) : own_Fin n0 K P T pc L (.int y :: .int x :: S) := by
  obtain ⟨p, l, e, R, s, m, args, below, meth, c⟩ := K
  obtain ⟨hx, hby, hml, hown, hret, hlk, hZ, rfl, hw⟩ := M
  obtain ⟨locs, X, hN, eT, hn, hcl, hsl⟩ := X
  subst hpN
  by_cases q : x = y
  · obtain ⟨s2, o2, st, r⟩ := yes q
    exact ⟨s2, o2, XS.icmpYes X.here hx rfl (pc0 := pc) rfl (hb hby hd) rfl (teq q).1 ho hY st, r⟩
  · obtain ⟨s2, o2, st, r⟩ := no q
    exact ⟨s2, o2, XS.icmpNo X.here hx rfl (hb hby hd) rfl (feq q).1 st, r⟩
theorem own_if_eq (M : own_Mx Z a0 K code own mx ret rm) (X : own_Sx n0 K T h cl sl) {x : Int32} {o : Int} {pcY pcN : Nat} (hd : decode code pc = .ok (.ifCond .eq o, 3)) (ho : 0 ≤ (pc : Int) + o) (hY : ((pc : Int) + o).toNat = pcY) (hpN : pc + 3 = pcN) (yes : x = 0 → own_Fin n0 K P T pcY L S) (no : ¬ x = 0 → own_Fin n0 K P T pcN L S) : own_Fin n0 K P T pc L (.int x :: S) := by
  obtain ⟨p, l, e, R, s, m, args, below, meth, c⟩ := K
  obtain ⟨hx, hby, hml, hown, hret, hlk, hZ, rfl, hw⟩ := M
  obtain ⟨locs, X, hN, eT, hn, hcl, hsl⟩ := X
  subst hpN
  by_cases q : x = 0
  · obtain ⟨s2, o2, st, r⟩ := yes q
    exact ⟨s2, o2, XS.ifYes X.here hx rfl (pc0 := pc) rfl (hb hby hd) rfl ((if0 _ _).trans (teq q).1) ho hY st, r⟩
  · obtain ⟨s2, o2, st, r⟩ := no q
    exact ⟨s2, o2, XS.ifNo X.here hx rfl (hb hby hd) rfl ((if0 _ _).trans (feq q).1) st, r⟩
theorem own_lcmp_eq (M : own_Mx Z a0 K code own mx ret rm) (X : own_Sx n0 K T h cl sl) {x y : Int64} {pc1 : Nat} {o : Int} {pcY pcN : Nat} (hdc : decode code pc = .ok (.lcmp, 1)) (h1 : pc + 1 = pc1) (hd : decode code pc1 = .ok (.ifCond .eq o, 3)) (ho : 0 ≤ (pc1 : Int) + o) (hY : ((pc1 : Int) + o).toNat = pcY) (hpN : pc1 + 3 = pcN) (yes : x = y → own_Fin n0 K P T pcY L S) (no : ¬ x = y → own_Fin n0 K P T pcN L S) : own_Fin n0 K P T pc L (.long y :: .long x :: S) := by
  obtain ⟨p, l, e, R, s, m, args, below, meth, c⟩ := K
  obtain ⟨hx, hby, hml, hown, hret, hlk, hZ, rfl, hw⟩ := M
  obtain ⟨locs, X, hN, eT, hn, hcl, hsl⟩ := X
  subst hpN h1
  by_cases q : x = y
  · obtain ⟨s2, o2, st, r⟩ := yes q
    exact ⟨s2, o2, XS.lcmp X.here hx rfl (hb hby hdc) rfl (XS.ifYes (g := mkF m (pc + 1) L (.int (lcmpW x y) :: S)) X.here hx rfl (pc0 := pc + 1) rfl (hb hby hd) rfl ((if0 _ _).trans (teq ((lw_eq x y).mpr q)).1) ho hY st), r⟩
  · obtain ⟨s2, o2, st, r⟩ := no q
    exact ⟨s2, o2, XS.lcmp X.here hx rfl (hb hby hdc) rfl (XS.ifNo (g := mkF m (pc + 1) L (.int (lcmpW x y) :: S)) X.here hx rfl (hb hby hd) rfl ((if0 _ _).trans (feq (fun z => q ((lw_eq x y).mp z))).1) st), r⟩
theorem own_icmp_ne (M : own_Mx Z a0 K code own mx ret rm) (X : own_Sx n0 K T h cl sl) {x y : Int32} {o : Int} {pcY pcN : Nat} (hd : decode code pc = .ok (.if_icmp .ne o, 3)) (ho : 0 ≤ (pc : Int) + o) (hY : ((pc : Int) + o).toNat = pcY) (hpN : pc + 3 = pcN) (yes : ¬ x = y → own_Fin n0 K P T pcY L S) (no : x = y → own_Fin n0 K P T pcN L S) : own_Fin n0 K P T pc L (.int y :: .int x :: S) := by
  obtain ⟨p, l, e, R, s, m, args, below, meth, c⟩ := K
  obtain ⟨hx, hby, hml, hown, hret, hlk, hZ, rfl, hw⟩ := M
  obtain ⟨locs, X, hN, eT, hn, hcl, hsl⟩ := X
  subst hpN
  by_cases q : x = y
  · obtain ⟨s2, o2, st, r⟩ := no q
    exact ⟨s2, o2, XS.icmpNo X.here hx rfl (hb hby hd) rfl (teq q).2 st, r⟩
  · obtain ⟨s2, o2, st, r⟩ := yes q
    exact ⟨s2, o2, XS.icmpYes X.here hx rfl (pc0 := pc) rfl (hb hby hd) rfl (feq q).2 ho hY st, r⟩
theorem own_if_ne (M : own_Mx Z a0 K code own mx ret rm) (X : own_Sx n0 K T h cl sl) {x : Int32} {o : Int} {pcY pcN : Nat} (hd : decode code pc = .ok (.ifCond .ne o, 3)) (ho : 0 ≤ (pc : Int) + o) (hY : ((pc : Int) + o).toNat = pcY) (hpN : pc + 3 = pcN) (yes : ¬ x = 0 → own_Fin n0 K P T pcY L S) (no : x = 0 → own_Fin n0 K P T pcN L S) : own_Fin n0 K P T pc L (.int x :: S) := by
  obtain ⟨p, l, e, R, s, m, args, below, meth, c⟩ := K
  obtain ⟨hx, hby, hml, hown, hret, hlk, hZ, rfl, hw⟩ := M
  obtain ⟨locs, X, hN, eT, hn, hcl, hsl⟩ := X
  subst hpN
  by_cases q : x = 0
  · obtain ⟨s2, o2, st, r⟩ := no q
    exact ⟨s2, o2, XS.ifNo X.here hx rfl (hb hby hd) rfl ((if0 _ _).trans (teq q).2) st, r⟩
  · obtain ⟨s2, o2, st, r⟩ := yes q
    exact ⟨s2, o2, XS.ifYes X.here hx rfl (pc0 := pc) rfl (hb hby hd) rfl ((if0 _ _).trans (feq q).2) ho hY st, r⟩
theorem own_lcmp_ne (M : own_Mx Z a0 K code own mx ret rm) (X : own_Sx n0 K T h cl sl) {x y : Int64} {pc1 : Nat} {o : Int} {pcY pcN : Nat} (hdc : decode code pc = .ok (.lcmp, 1)) (h1 : pc + 1 = pc1) (hd : decode code pc1 = .ok (.ifCond .ne o, 3)) (ho : 0 ≤ (pc1 : Int) + o) (hY : ((pc1 : Int) + o).toNat = pcY) (hpN : pc1 + 3 = pcN) (yes : ¬ x = y → own_Fin n0 K P T pcY L S) (no : x = y → own_Fin n0 K P T pcN L S) : own_Fin n0 K P T pc L (.long y :: .long x :: S) := by
  obtain ⟨p, l, e, R, s, m, args, below, meth, c⟩ := K
  obtain ⟨hx, hby, hml, hown, hret, hlk, hZ, rfl, hw⟩ := M
  obtain ⟨locs, X, hN, eT, hn, hcl, hsl⟩ := X
  subst hpN h1
  by_cases q : x = y
  · obtain ⟨s2, o2, st, r⟩ := no q
    exact ⟨s2, o2, XS.lcmp X.here hx rfl (hb hby hdc) rfl (XS.ifNo (g := mkF m (pc + 1) L (.int (lcmpW x y) :: S)) X.here hx rfl (hb hby hd) rfl ((if0 _ _).trans (teq ((lw_eq x y).mpr q)).2) st), r⟩
  · obtain ⟨s2, o2, st, r⟩ := yes q
    exact ⟨s2, o2, XS.lcmp X.here hx rfl (hb hby hdc) rfl (XS.ifYes (g := mkF m (pc + 1) L (.int (lcmpW x y) :: S)) X.here hx rfl (pc0 := pc + 1) rfl (hb hby hd) rfl ((if0 _ _).trans (feq (fun z => q ((lw_eq x y).mp z))).2) ho hY st), r⟩
theorem own_callS (M : own_Mx Z a0 K code own mx ret rm) (X : own_Sx n0 K T h cl sl) {y : MethodName} {ycode : ByteArray} {ymx : Nat} {yret : Option FieldType} {yrm : Room} {idx : Nat} {Q : Option Value → Heap → Prop} {ps : List FieldType} {yr : Option FieldType} (argsL : List Value)
    (w1 : (Jvm.Cond.methodLink own idx y).before a0 Z = true) (w2 : (Jvm.Cond.static y).before a0 Z = true) (w3 : (Jvm.Cond.initialized y.cls).before a0 Z = true) (w4 : (Jvm.Cond.code y ycode ymx yret).before a0 Z = true) (hy : y.cls ≠ "java/lang/invoke/MethodHandle" ∧ y.cls ≠ "java/lang/invoke/VarHandle")
    (hM : own_Met K.2.1 Z n0 y ycode ymx yret yrm argsL.toArray h Q) (hL : L.size = mx) (hd : decode code pc = .ok (.invokestatic idx, 3)) (hp : pc + 3 = pc') (hpd : parseMethodDescriptor y.desc = some ⟨ps, yr⟩) (hlen : argsL.length = ps.length) (hS : S = argsL.reverse ++ rest)
    (W : Nat) (hW : (rest.map fun v => v.category).sum ≤ W) (hf : yrm.frames + 1 ≤ rm.frames) (hl : W + (ymx + 11) + yrm.locals ≤ rm.locals) (hc : cl + yrm.cells ≤ rm.cells) (hs : sl + yrm.slots ≤ rm.slots)
    (hr : ∀ T' h' v, own_Sx n0 K T' h' (cl + yrm.cells) (sl + yrm.slots) → Q v h' → own_Fin n0 K P T' pc' L (v.toList ++ rest)) : own_Fin n0 K P T pc L S := by
  obtain ⟨p, l, e, R, s, m, args, below, meth, c⟩ := K
  obtain ⟨hx, hby, hml, hown, hret, hlk, hZ, rfl, hw⟩ := M
  obtain ⟨locs, X, hN, eT, hn, hcl, hsl⟩ := X
  obtain ⟨v, vm1, ⟨T1, L1, k1, n1⟩, -, X1, ⟨Lc, hQ, l1, y1, z1⟩, st⟩ := Jvm.LawKit.callS X hx (y := y) hown (mvT hZ w1) (mvT hZ w2) (mvT hZ w3) (mvT hZ w4) hy (backOf (W := W) (Q := fun v h L => Q v h ∧ Fr n0 L) (hM []) hZ w4 w3 hf hl) (g := mkF m pc L S) rfl (by rw [hml]; exact hL) (argsL := argsL) (rest := rest) (lenOf hpd hlen) hS (by show 2 * 0 + _ ≤ W; omega) (hb hby hd) (fun _ _ => ⟨rfl, eT, hc, hs⟩)
  dsimp only [Pt.U, Pt.locs, Pt.cells, Pt.slots] at X1 l1 y1 z1 st hQ
  subst l1 y1 z1 hp
  obtain ⟨s2, o2, st2, r⟩ := hr T1 _ v ⟨_, X1, Fr.app hN hQ.2, rfl, hn, hc, hs⟩ hQ.1
  exact ⟨s2, o2, st _ st2, r⟩
theorem own_callP (M : own_Mx Z a0 K code own mx ret rm) (X : own_Sx n0 K T h cl sl) {y : MethodName} {ycode : ByteArray} {ymx : Nat} {yret : Option FieldType} {yrm : Room} {idx : Nat} {ps : List FieldType} {yr : Option FieldType} {w : Value} (argsL : List Value)
    (w1 : (Jvm.Cond.methodLink own idx y).before a0 Z = true) (w2 : (Jvm.Cond.static y).before a0 Z = true) (w3 : (Jvm.Cond.initialized y.cls).before a0 Z = true) (w4 : (Jvm.Cond.code y ycode ymx yret).before a0 Z = true) (hy : y.cls ≠ "java/lang/invoke/MethodHandle" ∧ y.cls ≠ "java/lang/invoke/VarHandle")
    (hM : own_Met K.2.1 Z n0 y ycode ymx yret yrm argsL.toArray h (fun v h' => v = some w ∧ h' = h)) (hL : L.size = mx) (hd : decode code pc = .ok (.invokestatic idx, 3)) (hp : pc + 3 = pc') (hpd : parseMethodDescriptor y.desc = some ⟨ps, yr⟩) (hlen : argsL.length = ps.length) (hS : S = argsL.reverse ++ rest)
    (W : Nat) (hW : (rest.map fun v => v.category).sum ≤ W) (hf : yrm.frames + 1 ≤ rm.frames) (hl : W + (ymx + 11) + yrm.locals ≤ rm.locals) (hc0 : yrm.cells = 0) (hs0 : yrm.slots = 0)
    (hr : ∀ T', own_Sx n0 K T' h cl sl → own_Fin n0 K P T' pc' L (w :: rest)) : own_Fin n0 K P T pc L S := by
  have hcs : cl ≤ rm.cells ∧ sl ≤ rm.slots := by
    obtain ⟨p, l, e, R, s, m, args, below, meth, c⟩ := K
    obtain ⟨hx, hby, hml, hown, hret, hlk, hZ, rfl, hw⟩ := M
    obtain ⟨locs, X, hN, eT, hn, hcl, hsl⟩ := X
    exact ⟨hcl, hsl⟩
  refine own_callS M X argsL w1 w2 w3 w4 hy hM hL hd hp hpd hlen hS W hW hf hl (by rw [hc0]; exact hcs.1) (by rw [hs0]; exact hcs.2) ?_
  rintro T' h' v X' ⟨rfl, rfl⟩
  rw [hc0, hs0] at X'
  exact hr T' X'
theorem own_callP0 (M : own_Mx Z a0 K code own mx ret rm) (X : own_Sx n0 K T h cl sl) {y : MethodName} {ycode : ByteArray} {ymx : Nat} {yret : Option FieldType} {yrm : Room} {idx : Nat} {ps : List FieldType} {yr : Option FieldType} (argsL : List Value)
    (w1 : (Jvm.Cond.methodLink own idx y).before a0 Z = true) (w2 : (Jvm.Cond.static y).before a0 Z = true) (w3 : (Jvm.Cond.initialized y.cls).before a0 Z = true) (w4 : (Jvm.Cond.code y ycode ymx yret).before a0 Z = true) (hy : y.cls ≠ "java/lang/invoke/MethodHandle" ∧ y.cls ≠ "java/lang/invoke/VarHandle")
    (hM : own_Met K.2.1 Z n0 y ycode ymx yret yrm argsL.toArray h (fun v h' => v = none ∧ h' = h)) (hL : L.size = mx) (hd : decode code pc = .ok (.invokestatic idx, 3)) (hp : pc + 3 = pc') (hpd : parseMethodDescriptor y.desc = some ⟨ps, yr⟩) (hlen : argsL.length = ps.length) (hS : S = argsL.reverse ++ rest)
    (W : Nat) (hW : (rest.map fun v => v.category).sum ≤ W) (hf : yrm.frames + 1 ≤ rm.frames) (hl : W + (ymx + 11) + yrm.locals ≤ rm.locals) (hc0 : yrm.cells = 0) (hs0 : yrm.slots = 0)
    (hr : ∀ T', own_Sx n0 K T' h cl sl → own_Fin n0 K P T' pc' L (rest)) : own_Fin n0 K P T pc L S := by
  have hcs : cl ≤ rm.cells ∧ sl ≤ rm.slots := by
    obtain ⟨p, l, e, R, s, m, args, below, meth, c⟩ := K
    obtain ⟨hx, hby, hml, hown, hret, hlk, hZ, rfl, hw⟩ := M
    obtain ⟨locs, X, hN, eT, hn, hcl, hsl⟩ := X
    exact ⟨hcl, hsl⟩
  refine own_callS M X argsL w1 w2 w3 w4 hy hM hL hd hp hpd hlen hS W hW hf hl (by rw [hc0]; exact hcs.1) (by rw [hs0]; exact hcs.2) ?_
  rintro T' h' v X' ⟨rfl, rfl⟩
  rw [hc0, hs0] at X'
  exact hr T' X'
/-! arrays: n places, place j holds f j -/
def own_Va (Z : State) (h : Heap) (a : Addr) (ty : FieldType) (n : Nat) (f : Nat → Value) : Prop :=
  ∃ c : Cell, Arr Z h a c ty ∧ c.slots.size = n ∧ n < 2 ^ 31 ∧ (∀ j, j < n → c.slots[j]? = some (f j)) ∧ ∀ j, j < n → fits ty (f j) = true
def own_upd (f : Nat → Value) (i : Nat) (v : Value) : Nat → Value := fun j => if j = i then v else f j
theorem own_Va.lt {a : Addr} {ty : FieldType} {n : Nat} {f : Nat → Value} (V : own_Va Z h a ty n f) : a < h.size := by obtain ⟨c, A, -⟩ := V; exact A.lt
theorem own_Va.small {a : Addr} {ty : FieldType} {n : Nat} {f : Nat → Value} (V : own_Va Z h a ty n f) : n < 2 ^ 31 := by obtain ⟨c, A, -, q, -⟩ := V; exact q
theorem own_Va.ext {h' : Heap} {a : Addr} {ty : FieldType} {n : Nat} {f : Nat → Value} (V : own_Va Z h a ty n f) (E : Ext h h') : own_Va Z h' a ty n f := by obtain ⟨c, A, r⟩ := V; exact ⟨c, A.ext E, r⟩
theorem own_Va.keep {h' : Heap} {ws : List Addr} {a : Addr} {ty : FieldType} {n : Nat} {f : Nat → Value} (V : own_Va Z h a ty n f) (K : Keep h h' ws) (q : a ∉ ws) : own_Va Z h' a ty n f := by obtain ⟨c, A, r⟩ := V; exact ⟨c, ⟨K.2.1 a c A.1 q, A.2⟩, r⟩
theorem own_Va.congr {a : Addr} {ty : FieldType} {n : Nat} {f g : Nat → Value} (V : own_Va Z h a ty n f) (q : ∀ j, j < n → f j = g j) : own_Va Z h a ty n g := by
  obtain ⟨c, A, r1, r2, r3, r4⟩ := V
  exact ⟨c, A, r1, r2, fun j hj => by rw [← q j hj]; exact r3 j hj, fun j hj => by rw [← q j hj]; exact r4 j hj⟩
theorem own_Va.wr {h' : Heap} {a : Addr} {ty : FieldType} {n i : Nat} {f : Nat → Value} {v : Value} (V : own_Va Z h a ty n f) (W : Wr h h' a i v) (hf : fits ty v = true) : own_Va Z h' a ty n (own_upd f i v) := by
  obtain ⟨c, A, r1, r2, r3, r4⟩ := V
  refine ⟨c.setSlot i v, A.same W, by rw [sz_set]; exact r1, r2, fun j hj => ?_, fun j hj => ?_⟩
  · have hj' : j < c.slots.size := by omega
    by_cases q : j = i
    · subst q; simp [Cell.setSlot, own_upd, hj']
    · have q' : ¬ i = j := fun z => q z.symm
      simp only [Cell.setSlot, own_upd, if_neg q, Array.getElem?_setIfInBounds, if_neg q']
      exact r3 j hj
  · by_cases q : j = i
    · simp only [own_upd, if_pos q]; exact hf
    · simp only [own_upd, if_neg q]; exact r4 j hj
theorem own_upd_eq {f : Nat → Value} {i : Nat} {v : Value} : own_upd f i v i = v := if_pos rfl
theorem own_upd_ne {f : Nat → Value} {i j : Nat} {v : Value} (q : j ≠ i) : own_upd f i v j = f j := if_neg q
/-- an array of ints (bytes) by the list of its values; of longs -/
def own_lsi (ws : List Int32) : Nat → Value := fun j => .int (ws.getD j 0)
def own_lsj (ws : List Int64) : Nat → Value := fun j => .long (ws.getD j 0)
theorem own_zeroi {ty : FieldType} (ws : List Int32) (n : Nat) (hw : ws = List.replicate n 0) (hd : defaultValue ty = .int 0 := by rfl) : ∀ j, j < n → (fun _ : Nat => defaultValue ty) j = own_lsi ws j := fun j hj => by
  show defaultValue ty = .int (ws.getD j 0)
  rw [hw, hd]; simp [List.getD, hj]
theorem own_zeroj {ty : FieldType} (ws : List Int64) (n : Nat) (hw : ws = List.replicate n 0) (hd : defaultValue ty = .long 0 := by rfl) : ∀ j, j < n → (fun _ : Nat => defaultValue ty) j = own_lsj ws j := fun j hj => by
  show defaultValue ty = .long (ws.getD j 0)
  rw [hw, hd]; simp [List.getD, hj]
theorem own_seti {ws ws' : List Int32} {i n : Nat} {v : Int32} (hs : ws.set i v = ws') (hi : i < ws.length) : ∀ j, j < n → own_upd (own_lsi ws) i (.int v) j = own_lsi ws' j := fun j hj => by
  subst hs
  by_cases q : j = i
  · subst q; simp [own_upd, own_lsi, List.getD, hi]
  · have q' : ¬ i = j := fun z => q z.symm
    simp [own_upd, own_lsi, List.getD, q, q']
theorem own_setj {ws ws' : List Int64} {i n : Nat} {v : Int64} (hs : ws.set i v = ws') (hi : i < ws.length) : ∀ j, j < n → own_upd (own_lsj ws) i (.long v) j = own_lsj ws' j := fun j hj => by
  subst hs
  by_cases q : j = i
  · subst q; simp [own_upd, own_lsj, List.getD, hi]
  · have q' : ¬ i = j := fun z => q z.symm
    simp [own_upd, own_lsj, List.getD, q, q']
theorem own_nat {j : Int32} {i : Nat} (hi : j.toInt = i) : j.toNatClampNeg = i := by simp [Int32.toNatClampNeg, hi]
theorem own_inb {c : Cell} {n i : Nat} {j : Int32} (hs : c.slots.size = n) (hi : j.toInt = i) (hin : i < n) : ¬ (j < 0 ∨ c.slots.size ≤ j.toNatClampNeg) := by
  rw [own_nat hi, hs, Int32.lt_iff_toInt_lt, hi, Int32.toInt_zero]; omega
theorem own_baload (M : own_Mx Z a0 K code own mx ret rm) (X : own_Sx n0 K T h cl sl) {a : Addr} {n i : Nat} {f : Nat → Value} {j : Int32} {v : Value} (V : own_Va Z h a .byte n f) (hi : j.toInt = i) (hin : i < n) (hv : f i = v) (hd : decode code pc = .ok (.baload, 1)) (hp : pc + 1 = pc') (hr : own_Fin n0 K P T pc' L (v :: S)) : own_Fin n0 K P T pc L (.int j :: .ref a :: S) := by
  obtain ⟨p, l, e, R, s, m, args, below, meth, c⟩ := K
  obtain ⟨hx, hby, hml, hown, hret, hlk, hZ, rfl, hw⟩ := M
  obtain ⟨locs, X, hN, eT, hn, hcl, hsl⟩ := X
  obtain ⟨s2, o2, st, r⟩ := hr
  obtain ⟨cc, A, hs, hlt, hg, -⟩ := V
  subst hp hv
  exact ⟨s2, o2, X.baloadBytes hx (j := j) (v := f i) (by rw [eT]; exact A.1) (State.isArrayOf_alike hZ.alike A.2.1) A.2.2 (own_inb hs hi hin) (by rw [own_nat hi]; exact hg i hin) (g := mkF m pc L (.int j :: .ref a :: S)) rfl rfl (hb hby hd) _ st, r⟩
theorem own_iaload (M : own_Mx Z a0 K code own mx ret rm) (X : own_Sx n0 K T h cl sl) {a : Addr} {n i : Nat} {f : Nat → Value} {j : Int32} {v : Value} (V : own_Va Z h a .int n f) (hi : j.toInt = i) (hin : i < n) (hv : f i = v) (hd : decode code pc = .ok (.iaload, 1)) (hp : pc + 1 = pc') (hr : own_Fin n0 K P T pc' L (v :: S)) : own_Fin n0 K P T pc L (.int j :: .ref a :: S) := by
  obtain ⟨p, l, e, R, s, m, args, below, meth, c⟩ := K
  obtain ⟨hx, hby, hml, hown, hret, hlk, hZ, rfl, hw⟩ := M
  obtain ⟨locs, X, hN, eT, hn, hcl, hsl⟩ := X
  obtain ⟨s2, o2, st, r⟩ := hr
  obtain ⟨cc, A, hs, hlt, hg, -⟩ := V
  subst hp hv
  exact ⟨s2, o2, X.iaload hx (j := j) (v := f i) (by rw [eT]; exact A.1) (State.isArrayOf_alike hZ.alike A.2.1) A.2.2 (own_inb hs hi hin) (by rw [own_nat hi]; exact hg i hin) (g := mkF m pc L (.int j :: .ref a :: S)) rfl rfl (hb hby hd) _ st, r⟩
theorem own_laload (M : own_Mx Z a0 K code own mx ret rm) (X : own_Sx n0 K T h cl sl) {a : Addr} {n i : Nat} {f : Nat → Value} {j : Int32} {v : Value} (V : own_Va Z h a .long n f) (hi : j.toInt = i) (hin : i < n) (hv : f i = v) (hd : decode code pc = .ok (.laload, 1)) (hp : pc + 1 = pc') (hr : own_Fin n0 K P T pc' L (v :: S)) : own_Fin n0 K P T pc L (.int j :: .ref a :: S) := by
  obtain ⟨p, l, e, R, s, m, args, below, meth, c⟩ := K
  obtain ⟨hx, hby, hml, hown, hret, hlk, hZ, rfl, hw⟩ := M
  obtain ⟨locs, X, hN, eT, hn, hcl, hsl⟩ := X
  obtain ⟨s2, o2, st, r⟩ := hr
  obtain ⟨cc, A, hs, hlt, hg, -⟩ := V
  subst hp hv
  exact ⟨s2, o2, X.laload hx (j := j) (v := f i) (by rw [eT]; exact A.1) (State.isArrayOf_alike hZ.alike A.2.1) A.2.2 (own_inb hs hi hin) (by rw [own_nat hi]; exact hg i hin) (g := mkF m pc L (.int j :: .ref a :: S)) rfl rfl (hb hby hd) _ st, r⟩
theorem own_bastore (M : own_Mx Z a0 K code own mx ret rm) (X : own_Sx n0 K T h cl sl) {a : Addr} {n i : Nat} {f : Nat → Value} {j : Int32} {x : Int32} (V : own_Va Z h a .byte n f) (hga : n0 ≤ a) (hi : j.toInt = i) (hin : i < n) (hd : decode code pc = .ok (.bastore, 1)) (hp : pc + 1 = pc') (hr : ∀ T' h', own_Sx n0 K T' h' cl sl → Keep h h' [a] → own_Va Z h' a .byte n (own_upd f i (.int x.toInt8.toInt32)) → own_Fin n0 K P T' pc' L S) : own_Fin n0 K P T pc L (.int x :: .int j :: .ref a :: S) := by
  obtain ⟨p, l, e, R, s, m, args, below, meth, c⟩ := K
  obtain ⟨hx, hby, hml, hown, hret, hlk, hZ, rfl, hw⟩ := M
  obtain ⟨locs, X, hN, eT, hn, hcl, hsl⟩ := X
  have V0 := V
  obtain ⟨cc, A, hs, hlt, hg, -⟩ := V
  obtain ⟨T1, h1, X1, e1, W1, st⟩ := stB X hx hZ eT A (j := j) (own_inb hs hi hin) (g := mkF m pc L (.int x :: .int j :: .ref a :: S)) rfl rfl (hb hby hd)
  rw [own_nat hi] at W1 X1
  subst hp
  obtain ⟨s2, o2, st2, r⟩ := hr T1 h1 ⟨_, X1, Fr.snoc X1 hN hga, e1, hn, hcl, hsl⟩ (Keep.of_wr W1) (V0.wr W1 (fits_nar_byte x))
  exact ⟨s2, o2, st _ st2, r⟩
theorem own_iastore (M : own_Mx Z a0 K code own mx ret rm) (X : own_Sx n0 K T h cl sl) {a : Addr} {n i : Nat} {f : Nat → Value} {j : Int32} {x : Int32} (V : own_Va Z h a .int n f) (hga : n0 ≤ a) (hi : j.toInt = i) (hin : i < n) (hd : decode code pc = .ok (.iastore, 1)) (hp : pc + 1 = pc') (hr : ∀ T' h', own_Sx n0 K T' h' cl sl → Keep h h' [a] → own_Va Z h' a .int n (own_upd f i (.int x)) → own_Fin n0 K P T' pc' L S) : own_Fin n0 K P T pc L (.int x :: .int j :: .ref a :: S) := by
  obtain ⟨p, l, e, R, s, m, args, below, meth, c⟩ := K
  obtain ⟨hx, hby, hml, hown, hret, hlk, hZ, rfl, hw⟩ := M
  obtain ⟨locs, X, hN, eT, hn, hcl, hsl⟩ := X
  have V0 := V
  obtain ⟨cc, A, hs, hlt, hg, -⟩ := V
  obtain ⟨T1, h1, X1, e1, W1, st⟩ := stI X hx hZ eT A (j := j) (own_inb hs hi hin) (g := mkF m pc L (.int x :: .int j :: .ref a :: S)) rfl rfl (hb hby hd)
  rw [own_nat hi] at W1 X1
  subst hp
  obtain ⟨s2, o2, st2, r⟩ := hr T1 h1 ⟨_, X1, Fr.snoc X1 hN hga, e1, hn, hcl, hsl⟩ (Keep.of_wr W1) (V0.wr W1 rfl)
  exact ⟨s2, o2, st _ st2, r⟩
theorem own_lastore (M : own_Mx Z a0 K code own mx ret rm) (X : own_Sx n0 K T h cl sl) {a : Addr} {n i : Nat} {f : Nat → Value} {j : Int32} {x : Int64} (V : own_Va Z h a .long n f) (hga : n0 ≤ a) (hi : j.toInt = i) (hin : i < n) (hd : decode code pc = .ok (.lastore, 1)) (hp : pc + 1 = pc') (hr : ∀ T' h', own_Sx n0 K T' h' cl sl → Keep h h' [a] → own_Va Z h' a .long n (own_upd f i (.long x)) → own_Fin n0 K P T' pc' L S) : own_Fin n0 K P T pc L (.long x :: .int j :: .ref a :: S) := by
  obtain ⟨p, l, e, R, s, m, args, below, meth, c⟩ := K
  obtain ⟨hx, hby, hml, hown, hret, hlk, hZ, rfl, hw⟩ := M
  obtain ⟨locs, X, hN, eT, hn, hcl, hsl⟩ := X
  have V0 := V
  obtain ⟨cc, A, hs, hlt, hg, -⟩ := V
  obtain ⟨T1, h1, X1, e1, W1, st⟩ := stJ X hx hZ eT A (j := j) (own_inb hs hi hin) (g := mkF m pc L (.long x :: .int j :: .ref a :: S)) rfl rfl (hb hby hd)
  rw [own_nat hi] at W1 X1
  subst hp
  obtain ⟨s2, o2, st2, r⟩ := hr T1 h1 ⟨_, X1, Fr.snoc X1 hN hga, e1, hn, hcl, hsl⟩ (Keep.of_wr W1) (V0.wr W1 rfl)
  exact ⟨s2, o2, st _ st2, r⟩
theorem own_arraylength (M : own_Mx Z a0 K code own mx ret rm) (X : own_Sx n0 K T h cl sl) {a : Addr} {ty : FieldType} {n : Nat} {f : Nat → Value} {z : Int32} (V : own_Va Z h a ty n f) (hz : z.toInt = n) (hd : decode code pc = .ok (.arraylength, 1)) (hp : pc + 1 = pc') (hr : own_Fin n0 K P T pc' L (.int z :: S)) : own_Fin n0 K P T pc L (.ref a :: S) := by
  obtain ⟨p, l, e, R, s, m, args, below, meth, c⟩ := K
  obtain ⟨hx, hby, hml, hown, hret, hlk, hZ, rfl, hw⟩ := M
  obtain ⟨locs, X, hN, eT, hn, hcl, hsl⟩ := X
  obtain ⟨s2, o2, st, r⟩ := hr
  obtain ⟨cc, A, hs, hlt, hg, -⟩ := V
  subst hp
  have e : cc.slots.size.toInt32 = z := by rw [hs]; exact Int32.toInt_inj.mp (by rw [len_toInt hlt, hz])
  exact ⟨s2, o2, X.arraylength hx (by rw [eT]; exact A.1) (State.isArrayOf_alike hZ.alike A.2.1) (g := mkF m pc L (.ref a :: S)) rfl rfl (hb hby hd) _ (by rw [e]; exact st), r⟩
theorem own_newarray (M : own_Mx Z a0 K code own mx ret rm) (X : own_Sx n0 K T h cl sl) {aty : ArrayType} {nn : Int32} {n : Nat} (cap : Nat) (w : (Jvm.Cond.arrayClass (newarray.typeOf aty)).before a0 Z = true) (hd : decode code pc = .ok (.newarray aty, 2)) (hp : pc + 2 = pc') (hnn : nn.toInt = n) (hcap : n ≤ cap) (hb8 : cap * 8 ≤ 536870912) (hc : cl + 1 ≤ rm.cells) (hs : sl + cap ≤ rm.slots)
    (hr : ∀ T' h' a, n0 ≤ a → h.size ≤ a → own_Sx n0 K T' h' (cl + 1) (sl + cap) → Ext h h' → own_Va Z h' a (newarray.typeOf aty) n (fun _ => defaultValue (newarray.typeOf aty)) → own_Fin n0 K P T' pc' L (.ref a :: S)) : own_Fin n0 K P T pc L (.int nn :: S) := by
  have hsz := X.size
  obtain ⟨p, l, e, R, s, m, args, below, meth, c⟩ := K
  obtain ⟨hx, hby, hml, hown, hret, hlk, hZ, rfl, hw⟩ := M
  obtain ⟨locs, X, hN, eT, hn, hcl, hsl⟩ := X
  obtain ⟨T1, h1, cA, X1, e1, E1, A1, st⟩ := newP X hx hZ w eT (g := mkF m pc L (.int nn :: S)) rfl (hb hby hd) rfl (by rw [Int32.lt_iff_toInt_lt, hnn, Int32.toInt_zero]; omega) (cap := cap) (by rw [own_nat hnn]; exact hcap) hb8 hc hs
  subst hp
  obtain ⟨s2, o2, st2, r⟩ := hr T1 h1 h.size hsz (Nat.le_refl _) ⟨_, X1, hN, e1, hn, hc, hs⟩ E1 ⟨_, A1, by rw [sz_new, own_nat hnn], by omega, fun j hj => by simp [newA, own_nat hnn, hj], fun j hj => by cases aty <;> rfl⟩
  exact ⟨s2, o2, st _ st2, r⟩
theorem own_new (M : own_Mx Z a0 K code own mx ret rm) (X : own_Sx n0 K T h cl sl) {C : String} {idx k : Nat} (w : (Jvm.Cond.classLink own idx C).before a0 Z = true) (wi : (Jvm.Cond.instantiable C k).before a0 Z = true) (wz : (Jvm.Cond.initialized C).before a0 Z = true) (hd : decode code pc = .ok (.new idx, 3)) (hp : pc + 3 = pc') (hc : cl + 1 ≤ rm.cells) (hs : sl + k ≤ rm.slots)
    (hr : ∀ T' h' a, n0 ≤ a → h.size ≤ a → own_Sx n0 K T' h' (cl + 1) (sl + k) → Ext h h' → Exa Z h' a C → (∀ {O nm d : String} {ty : FieldType}, Laid Z a0 C O nm d → parseFieldDescriptor d = some ty → Fld Z h' a O nm d (defaultValue ty)) → own_Fin n0 K P T' pc' L (.ref a :: S)) : own_Fin n0 K P T pc L S := by
  have hsz := X.size
  obtain ⟨p, l, e, R, s, m, args, below, meth, c⟩ := K
  obtain ⟨hx, hby, hml, hown, hret, hlk, hZ, rfl, hw⟩ := M
  obtain ⟨locs, X, hN, eT, hn, hcl, hsl⟩ := X
  obtain ⟨T1, h1, X1, e1, E1, A1, D1, -, st⟩ := newO X hx hZ hown w wi wz eT (g := mkF m pc L S) rfl (hb hby hd) hc hs
  subst hp
  obtain ⟨s2, o2, st2, r⟩ := hr T1 h1 h.size hsz (Nat.le_refl _) ⟨_, X1, hN, e1, hn, hc, hs⟩ E1 A1 D1
  exact ⟨s2, o2, st _ st2, r⟩
theorem own_getfield (M : own_Mx Z a0 K code own mx ret rm) (X : own_Sx n0 K T h cl sl) {O nm d : String} {idx : Nat} {a : Addr} {v : Value} (w : (Jvm.Cond.fieldLink own idx O nm d).before a0 Z = true) (F : Fld Z h a O nm d v) (hd : decode code pc = .ok (.getfield idx, 3)) (hp : pc + 3 = pc') (hr : ∀ T', own_Sx n0 K T' h cl sl → own_Fin n0 K P T' pc' L (v :: S)) : own_Fin n0 K P T pc L (.ref a :: S) := by
  obtain ⟨p, l, e, R, s, m, args, below, meth, c⟩ := K
  obtain ⟨hx, hby, hml, hown, hret, hlk, hZ, rfl, hw⟩ := M
  obtain ⟨locs, X, hN, eT, hn, hcl, hsl⟩ := X
  obtain ⟨T1, X1, e1, st⟩ := getF X hx hZ hown (host := "") (Or.inl w) Via.refl eT F (g := mkF m pc L (.ref a :: S)) rfl rfl (hb hby hd)
  subst hp
  obtain ⟨s2, o2, st2, r⟩ := hr T1 ⟨_, X1, hN, e1, hn, hcl, hsl⟩
  exact ⟨s2, o2, st _ st2, r⟩
theorem own_putfield (M : own_Mx Z a0 K code own mx ret rm) (X : own_Sx n0 K T h cl sl) {O nm d C : String} {idx k : Nat} {a : Addr} {v old : Value} {ty : FieldType} (w : (Jvm.Cond.fieldLink own idx O nm d).before a0 Z = true) (F : Fld Z h a O nm d old) (E : Exa Z h a C) (hL : (Jvm.Cond.lays C O nm d).before a0 Z = true ∨ ((Jvm.Cond.laysFinal C O nm d).before a0 Z = true ∧ own = O ∧ K.2.2.2.2.2.2.2.2.1.name = "<init>")) (wi : (Jvm.Cond.instantiable C k).before a0 Z = true) (hty : parseFieldDescriptor d = some ty) (hnv : narrow ty v = v) (hf : fits ty v = true) (hga : n0 ≤ a) (hd : decode code pc = .ok (.putfield idx, 3)) (hp : pc + 3 = pc')
    (hr : ∀ T' h', own_Sx n0 K T' h' cl sl → Wr h h' a (Jvm.RoadKit.slotOf Z O nm d) v → own_Fin n0 K P T' pc' L S) : own_Fin n0 K P T pc L (v :: .ref a :: S) := by
  obtain ⟨p, l, e, R, s, m, args, below, meth, c⟩ := K
  obtain ⟨hx, hby, hml, hown, hret, hlk, hZ, rfl, hw⟩ := M
  obtain ⟨locs, X, hN, eT, hn, hcl, hsl⟩ := X
  obtain ⟨T1, h1, X1, e1, W1, st⟩ := putF X hx hZ hown (host := "") (Or.inl w) Via.refl eT F E hL wi hty hnv hf (g := mkF m pc L (v :: .ref a :: S)) rfl rfl (hb hby hd)
  subst hp
  obtain ⟨s2, o2, st2, r⟩ := hr T1 h1 ⟨_, X1, Fr.snoc X1 hN hga, e1, hn, hcl, hsl⟩ W1
  exact ⟨s2, o2, st _ st2, r⟩
theorem own_initO (M : own_Mx Z a0 K code own mx ret rm) (X : own_Sx n0 K T h cl sl) {idx : Nat} {a : Addr} (w1 : (Jvm.Cond.methodLink own idx Lib.objectInit).before a0 Z = true) (w2 : (Jvm.Cond.instanceMethod Lib.objectInit).before a0 Z = true) (w3 : (Jvm.Cond.code Lib.objectInit ⟨#[0xb1]⟩ 1 none).before a0 Z = true) (hL : L.size = mx) (hd : decode code pc = .ok (.invokespecial idx, 3)) (hp : pc + 3 = pc') (hf : 1 ≤ rm.frames) (W : Nat) (hW : (S.map fun v => v.category).sum ≤ W) (hl : W + 12 ≤ rm.locals) (hr : ∀ T', own_Sx n0 K T' h cl sl → own_Fin n0 K P T' pc' L S) : own_Fin n0 K P T pc L (.ref a :: S) := by
  obtain ⟨p, l, e, R, s, m, args, below, meth, c⟩ := K
  obtain ⟨hx, hby, hml, hown, hret, hlk, hZ, rfl, hw⟩ := M
  obtain ⟨locs, X, hN, eT, hn, hcl, hsl⟩ := X
  obtain ⟨T1, X1, e1, st⟩ := initO X hx hZ hown w1 w2 w3 eT (g := mkF m pc L (.ref a :: S)) rfl (by rw [hml]; exact hL) rfl (hb hby hd) hf (W := W) (by show 2 * 0 + _ ≤ W; omega) hl
  subst hp
  obtain ⟨s2, o2, st2, r⟩ := hr T1 ⟨_, X1, hN, e1, hn, hcl, hsl⟩
  exact ⟨s2, o2, st _ st2, r⟩
theorem own_callN (M : own_Mx Z a0 K code own mx ret rm) (X : own_Sx n0 K T h cl sl) {y : MethodName} {ycode : ByteArray} {ymx : Nat} {yret : Option FieldType} {yrm : Room} {idx : Nat} {Q : Option Value → Heap → Prop} {ps : List FieldType} {yr : Option FieldType} {a : Addr} (argsL : List Value)
    (w1 : (Jvm.Cond.methodLink own idx y).before a0 Z = true) (w2 : (Jvm.Cond.instanceMethod y).before a0 Z = true) (w3 : (Jvm.Cond.initialized y.cls).before a0 Z = true) (w4 : (Jvm.Cond.code y ycode ymx yret).before a0 Z = true) (hy : y.cls ≠ "java/lang/invoke/MethodHandle" ∧ y.cls ≠ "java/lang/invoke/VarHandle") (hnm : y.name = "<init>") (hnr : yret = none)
    (hM : own_Met K.2.1 Z n0 y ycode ymx yret yrm (.ref a :: argsL).toArray h Q) (hL : L.size = mx) (hd : decode code pc = .ok (.invokespecial idx, 3)) (hp : pc + 3 = pc') (hpd : parseMethodDescriptor y.desc = some ⟨ps, yr⟩) (hlen : argsL.length = ps.length) (hS : S = argsL.reverse ++ .ref a :: rest)
    (W : Nat) (hW : (rest.map fun v => v.category).sum ≤ W) (hf : yrm.frames + 1 ≤ rm.frames) (hl : W + (ymx + 11) + yrm.locals ≤ rm.locals) (hc : cl + yrm.cells ≤ rm.cells) (hs : sl + yrm.slots ≤ rm.slots)
    (hr : ∀ T' h' v, own_Sx n0 K T' h' (cl + yrm.cells) (sl + yrm.slots) → Q v h' → own_Fin n0 K P T' pc' L (v.toList ++ rest)) : own_Fin n0 K P T pc L S := by
  obtain ⟨p, l, e, R, s, m, args, below, meth, c⟩ := K
  obtain ⟨hx, hby, hml, hown, hret, hlk, hZ, rfl, hw⟩ := M
  obtain ⟨locs, X, hN, eT, hn, hcl, hsl⟩ := X
  subst hnr
  obtain ⟨v, vm1, ⟨T1, L1, k1, n1⟩, -, X1, ⟨Lc, hQ, l1, y1, z1⟩, st⟩ := X.specialBack hx (y := y) hnm hown (mvT hZ w1) (mvT hZ w2) (mvT hZ w4) hy (backOf (W := W) (Q := fun v h L => Q v h ∧ Fr n0 L) (hM []) hZ w4 w3 hf hl) (g := mkF m pc L S) rfl (by rw [hml]; exact hL) (Steps.refl _) (a := a) (argsL := argsL) (rest := rest) (lenOf hpd hlen) hS (by show 2 * 0 + _ ≤ W; omega) (hb hby hd) (fun _ _ => ⟨rfl, eT, hc, hs⟩)
  dsimp only [Pt.U, Pt.locs, Pt.cells, Pt.slots] at X1 l1 y1 z1 st hQ
  subst l1 y1 z1 hp
  obtain ⟨s2, o2, st2, r⟩ := hr T1 _ v ⟨_, X1, Fr.app hN hQ.2, rfl, hn, hc, hs⟩ hQ.1
  exact ⟨s2, o2, st.trans st2, r⟩
theorem own_callV (M : own_Mx Z a0 K code own mx ret rm) (X : own_Sx n0 K T h cl sl) {y : MethodName} {ycode : ByteArray} {ymx : Nat} {yret : Option FieldType} {yrm : Room} {idx : Nat} {Q : Option Value → Heap → Prop} {ps : List FieldType} {yr : Option FieldType} {a : Addr} (argsL : List Value)
    (w1 : (Jvm.Cond.methodLink own idx y).before a0 Z = true) (w2 : (Jvm.Cond.instanceMethod y).before a0 Z = true) (w5 : (Jvm.Cond.declares y).before a0 Z = true) (w6 : (Jvm.Cond.selects y.cls y y).before a0 Z = true) (w3 : (Jvm.Cond.initialized y.cls).before a0 Z = true) (w4 : (Jvm.Cond.code y ycode ymx yret).before a0 Z = true) (hy : y.cls ≠ "java/lang/invoke/MethodHandle" ∧ y.cls ≠ "java/lang/invoke/VarHandle") (E : Exa Z h a y.cls)
    (hM : own_Met K.2.1 Z n0 y ycode ymx yret yrm (.ref a :: argsL).toArray h Q) (hL : L.size = mx) (hd : decode code pc = .ok (.invokevirtual idx, 3)) (hp : pc + 3 = pc') (hpd : parseMethodDescriptor y.desc = some ⟨ps, yr⟩) (hlen : argsL.length = ps.length) (hS : S = argsL.reverse ++ .ref a :: rest)
    (W : Nat) (hW : (rest.map fun v => v.category).sum ≤ W) (hf : yrm.frames + 1 ≤ rm.frames) (hl : W + (ymx + 11) + yrm.locals ≤ rm.locals) (hc : cl + yrm.cells ≤ rm.cells) (hs : sl + yrm.slots ≤ rm.slots)
    (hr : ∀ T' h' v, own_Sx n0 K T' h' (cl + yrm.cells) (sl + yrm.slots) → Q v h' → own_Fin n0 K P T' pc' L (v.toList ++ rest)) : own_Fin n0 K P T pc L S := by
  obtain ⟨p, l, e, R, s, m, args, below, meth, c⟩ := K
  obtain ⟨hx, hby, hml, hown, hret, hlk, hZ, rfl, hw⟩ := M
  obtain ⟨locs, X, hN, eT, hn, hcl, hsl⟩ := X
  obtain ⟨cq, kq, qa, qb, qc⟩ := isOf hZ eT E
  obtain ⟨v, vm1, ⟨T1, L1, k1, n1⟩, -, X1, ⟨Lc, hQ, l1, y1, z1⟩, st⟩ := X.virtualBack hx (y := y) (z := y) hown (mvT hZ w1) (mvT hZ w5) (notFace_of_selects (args := #[]) (mvT hZ w6)) (mvT hZ w6) (mvT hZ w2) hy (backOf (W := W) (Q := fun v h L => Q v h ∧ Fr n0 L) (hM []) hZ w4 w3 hf hl) qa qc (g := mkF m pc L S) rfl (by rw [hml]; exact hL) (Steps.refl _) (argsL := argsL) (rest := rest) (lenOf hpd hlen) hS (by show 2 * 0 + _ ≤ W; omega) (hb hby hd) (fun _ _ => ⟨rfl, eT, hc, hs⟩)
  dsimp only [Pt.U, Pt.locs, Pt.cells, Pt.slots] at X1 l1 y1 z1 st hQ
  subst l1 y1 z1 hp
  obtain ⟨s2, o2, st2, r⟩ := hr T1 _ v ⟨_, X1, Fr.app hN hQ.2, rfl, hn, hc, hs⟩ hQ.1
  exact ⟨s2, o2, st.trans st2, r⟩
theorem own_selPriv {s : State} {args : Array Value} {n : Nat} {y : MethodName} (hins : (Jvm.Cond.instantiable y.cls n).before args s = true) (hpriv : (Jvm.Cond.privateMethod y).before args s = true) (hinst : (Jvm.Cond.instanceMethod y).before args s = true) (hy : y.cls ≠ "java/lang/invoke/MethodHandle" ∧ y.cls ≠ "java/lang/invoke/VarHandle") : (Jvm.Cond.selects y.cls y y).before args s = true := by
  obtain ⟨c, k, hc, hk, -, hniab, -, -⟩ := Cond.instantiable_spec hins
  have hni : k.isInterface = false := (Bool.or_eq_false_iff.mp hniab).1
  obtain ⟨mk, methM, hnamed, hmethM, -, -⟩ := Cond.instanceMethod_spec hinst
  have hfound : s.methodFound? y.cls y.name y.desc = some mk := State.methodFound?_of_named hnamed hy
  have hcls : mk.cls = c := Option.some.inj ((findClass_of_methodNamed hnamed).symm.trans hc)
  have hsel : selectMethod {} s.vm c mk = .method mk := selectMethod_private hmethM (Cond.privateMethod_at hpriv mk methM hnamed hmethM)
  simp only [Cond.before, Cond.holds, Cond.value, hc, hfound, hnamed, hsel, hcls, hk]
  simp; exact hni
theorem own_callPriv (M : own_Mx Z a0 K code own mx ret rm) (X : own_Sx n0 K T h cl sl) {y : MethodName} {ycode : ByteArray} {ymx : Nat} {yret : Option FieldType} {yrm : Room} {idx : Nat} {Q : Option Value → Heap → Prop} {ps : List FieldType} {yr : Option FieldType} {a : Addr} (argsL : List Value)
    (w1 : (Jvm.Cond.methodLink own idx y).before a0 Z = true) (w2 : (Jvm.Cond.instanceMethod y).before a0 Z = true) (w5 : (Jvm.Cond.privateMethod y).before a0 Z = true) {kk : Nat} (w6 : (Jvm.Cond.instantiable y.cls kk).before a0 Z = true) (w3 : (Jvm.Cond.initialized y.cls).before a0 Z = true) (w4 : (Jvm.Cond.code y ycode ymx yret).before a0 Z = true) (hy : y.cls ≠ "java/lang/invoke/MethodHandle" ∧ y.cls ≠ "java/lang/invoke/VarHandle") (E : Exa Z h a y.cls)
    (hM : own_Met K.2.1 Z n0 y ycode ymx yret yrm (.ref a :: argsL).toArray h Q) (hL : L.size = mx) (hd : decode code pc = .ok (.invokevirtual idx, 3)) (hp : pc + 3 = pc') (hpd : parseMethodDescriptor y.desc = some ⟨ps, yr⟩) (hlen : argsL.length = ps.length) (hS : S = argsL.reverse ++ .ref a :: rest)
    (W : Nat) (hW : (rest.map fun v => v.category).sum ≤ W) (hf : yrm.frames + 1 ≤ rm.frames) (hl : W + (ymx + 11) + yrm.locals ≤ rm.locals) (hc : cl + yrm.cells ≤ rm.cells) (hs : sl + yrm.slots ≤ rm.slots)
    (hr : ∀ T' h' v, own_Sx n0 K T' h' (cl + yrm.cells) (sl + yrm.slots) → Q v h' → own_Fin n0 K P T' pc' L (v.toList ++ rest)) : own_Fin n0 K P T pc L S := by
  obtain ⟨p, l, e, R, s, m, args, below, meth, c⟩ := K
  obtain ⟨hx, hby, hml, hown, hret, hlk, hZ, rfl, hw⟩ := M
  obtain ⟨locs, X, hN, eT, hn, hcl, hsl⟩ := X
  obtain ⟨cq, qa, qb⟩ := E.cell
  obtain ⟨v, vm1, ⟨T1, L1, k1, n1⟩, -, X1, ⟨Lc, hQ, l1, y1, z1⟩, st⟩ := X.privateBack hx (y := y) hown (mvT hZ w1) (mvT hZ w2) (own_selPriv (mvT hZ w6) (mvP hZ w5) (mvT hZ w2) hy) (Cond.privateMethod_at (mvP hZ w5 (args := #[]))) (mvT hZ w4) hy (backOf (W := W) (Q := fun v h L => Q v h ∧ Fr n0 L) (hM []) hZ w4 w3 hf hl) (g := mkF m pc L S) rfl (by rw [hml]; exact hL) (Steps.refl _) (a := a) (by rw [eT]; exact qa) qb (argsL := argsL) (rest := rest) (lenOf hpd hlen) hS (by show 2 * 0 + _ ≤ W; omega) (hb hby hd) (fun _ _ => ⟨rfl, eT, hc, hs⟩)
  dsimp only [Pt.U, Pt.locs, Pt.cells, Pt.slots] at X1 l1 y1 z1 st hQ
  subst l1 y1 z1 hp
  obtain ⟨s2, o2, st2, r⟩ := hr T1 _ v ⟨_, X1, Fr.app hN hQ.2, rfl, hn, hc, hs⟩ hQ.1
  exact ⟨s2, o2, st.trans st2, r⟩
theorem own_callNP0 (M : own_Mx Z a0 K code own mx ret rm) (X : own_Sx n0 K T h cl sl) {y : MethodName} {ycode : ByteArray} {ymx : Nat} {yret : Option FieldType} {yrm : Room} {idx : Nat} {ps : List FieldType} {yr : Option FieldType} {a : Addr} (argsL : List Value)
    (w1 : (Jvm.Cond.methodLink own idx y).before a0 Z = true) (w2 : (Jvm.Cond.instanceMethod y).before a0 Z = true) (w3 : (Jvm.Cond.initialized y.cls).before a0 Z = true) (w4 : (Jvm.Cond.code y ycode ymx yret).before a0 Z = true) (hy : y.cls ≠ "java/lang/invoke/MethodHandle" ∧ y.cls ≠ "java/lang/invoke/VarHandle") (hnm : y.name = "<init>") (hnr : yret = none)
    (hM : own_Met K.2.1 Z n0 y ycode ymx yret yrm (.ref a :: argsL).toArray h (fun v h' => v = none ∧ h' = h)) (hL : L.size = mx) (hd : decode code pc = .ok (.invokespecial idx, 3)) (hp : pc + 3 = pc') (hpd : parseMethodDescriptor y.desc = some ⟨ps, yr⟩) (hlen : argsL.length = ps.length) (hS : S = argsL.reverse ++ .ref a :: rest)
    (W : Nat) (hW : (rest.map fun v => v.category).sum ≤ W) (hf : yrm.frames + 1 ≤ rm.frames) (hl : W + (ymx + 11) + yrm.locals ≤ rm.locals) (hc0 : yrm.cells = 0) (hs0 : yrm.slots = 0)
    (hr : ∀ T', own_Sx n0 K T' h cl sl → own_Fin n0 K P T' pc' L (rest)) : own_Fin n0 K P T pc L S := by
  have hcs : cl ≤ rm.cells ∧ sl ≤ rm.slots := by
    obtain ⟨p, l, e, R, s, m, args, below, meth, c⟩ := K
    obtain ⟨hx, hby, hml, hown, hret, hlk, hZ, rfl, hw⟩ := M
    obtain ⟨locs, X, hN, eT, hn, hcl, hsl⟩ := X
    exact ⟨hcl, hsl⟩
  refine own_callN M X argsL w1 w2 w3 w4 hy hnm hnr hM hL hd hp hpd hlen hS W hW hf hl (by rw [hc0]; exact hcs.1) (by rw [hs0]; exact hcs.2) ?_
  rintro T' h' v X' ⟨rfl, rfl⟩
  rw [hc0, hs0] at X'
  exact hr T' X'
theorem own_callVP (M : own_Mx Z a0 K code own mx ret rm) (X : own_Sx n0 K T h cl sl) {y : MethodName} {ycode : ByteArray} {ymx : Nat} {yret : Option FieldType} {yrm : Room} {idx : Nat} {ps : List FieldType} {yr : Option FieldType} {a : Addr} {w : Value} (argsL : List Value)
    (w1 : (Jvm.Cond.methodLink own idx y).before a0 Z = true) (w2 : (Jvm.Cond.instanceMethod y).before a0 Z = true) (w5 : (Jvm.Cond.declares y).before a0 Z = true) (w6 : (Jvm.Cond.selects y.cls y y).before a0 Z = true) (w3 : (Jvm.Cond.initialized y.cls).before a0 Z = true) (w4 : (Jvm.Cond.code y ycode ymx yret).before a0 Z = true) (hy : y.cls ≠ "java/lang/invoke/MethodHandle" ∧ y.cls ≠ "java/lang/invoke/VarHandle") (E : Exa Z h a y.cls)
    (hM : own_Met K.2.1 Z n0 y ycode ymx yret yrm (.ref a :: argsL).toArray h (fun v h' => v = some w ∧ h' = h)) (hL : L.size = mx) (hd : decode code pc = .ok (.invokevirtual idx, 3)) (hp : pc + 3 = pc') (hpd : parseMethodDescriptor y.desc = some ⟨ps, yr⟩) (hlen : argsL.length = ps.length) (hS : S = argsL.reverse ++ .ref a :: rest)
    (W : Nat) (hW : (rest.map fun v => v.category).sum ≤ W) (hf : yrm.frames + 1 ≤ rm.frames) (hl : W + (ymx + 11) + yrm.locals ≤ rm.locals) (hc0 : yrm.cells = 0) (hs0 : yrm.slots = 0)
    (hr : ∀ T', own_Sx n0 K T' h cl sl → own_Fin n0 K P T' pc' L (w :: rest)) : own_Fin n0 K P T pc L S := by
  have hcs : cl ≤ rm.cells ∧ sl ≤ rm.slots := by
    obtain ⟨p, l, e, R, s, m, args, below, meth, c⟩ := K
    obtain ⟨hx, hby, hml, hown, hret, hlk, hZ, rfl, hw⟩ := M
    obtain ⟨locs, X, hN, eT, hn, hcl, hsl⟩ := X
    exact ⟨hcl, hsl⟩
  refine own_callV M X argsL w1 w2 w5 w6 w3 w4 hy E hM hL hd hp hpd hlen hS W hW hf hl (by rw [hc0]; exact hcs.1) (by rw [hs0]; exact hcs.2) ?_
  rintro T' h' v X' ⟨rfl, rfl⟩
  rw [hc0, hs0] at X'
  exact hr T' X'
theorem own_callVP0 (M : own_Mx Z a0 K code own mx ret rm) (X : own_Sx n0 K T h cl sl) {y : MethodName} {ycode : ByteArray} {ymx : Nat} {yret : Option FieldType} {yrm : Room} {idx : Nat} {ps : List FieldType} {yr : Option FieldType} {a : Addr} (argsL : List Value)
    (w1 : (Jvm.Cond.methodLink own idx y).before a0 Z = true) (w2 : (Jvm.Cond.instanceMethod y).before a0 Z = true) (w5 : (Jvm.Cond.declares y).before a0 Z = true) (w6 : (Jvm.Cond.selects y.cls y y).before a0 Z = true) (w3 : (Jvm.Cond.initialized y.cls).before a0 Z = true) (w4 : (Jvm.Cond.code y ycode ymx yret).before a0 Z = true) (hy : y.cls ≠ "java/lang/invoke/MethodHandle" ∧ y.cls ≠ "java/lang/invoke/VarHandle") (E : Exa Z h a y.cls)
    (hM : own_Met K.2.1 Z n0 y ycode ymx yret yrm (.ref a :: argsL).toArray h (fun v h' => v = none ∧ h' = h)) (hL : L.size = mx) (hd : decode code pc = .ok (.invokevirtual idx, 3)) (hp : pc + 3 = pc') (hpd : parseMethodDescriptor y.desc = some ⟨ps, yr⟩) (hlen : argsL.length = ps.length) (hS : S = argsL.reverse ++ .ref a :: rest)
    (W : Nat) (hW : (rest.map fun v => v.category).sum ≤ W) (hf : yrm.frames + 1 ≤ rm.frames) (hl : W + (ymx + 11) + yrm.locals ≤ rm.locals) (hc0 : yrm.cells = 0) (hs0 : yrm.slots = 0)
    (hr : ∀ T', own_Sx n0 K T' h cl sl → own_Fin n0 K P T' pc' L (rest)) : own_Fin n0 K P T pc L S := by
  have hcs : cl ≤ rm.cells ∧ sl ≤ rm.slots := by
    obtain ⟨p, l, e, R, s, m, args, below, meth, c⟩ := K
    obtain ⟨hx, hby, hml, hown, hret, hlk, hZ, rfl, hw⟩ := M
    obtain ⟨locs, X, hN, eT, hn, hcl, hsl⟩ := X
    exact ⟨hcl, hsl⟩
  refine own_callV M X argsL w1 w2 w5 w6 w3 w4 hy E hM hL hd hp hpd hlen hS W hW hf hl (by rw [hc0]; exact hcs.1) (by rw [hs0]; exact hcs.2) ?_
  rintro T' h' v X' ⟨rfl, rfl⟩
  rw [hc0, hs0] at X'
  exact hr T' X'
theorem own_callPrivP (M : own_Mx Z a0 K code own mx ret rm) (X : own_Sx n0 K T h cl sl) {y : MethodName} {ycode : ByteArray} {ymx : Nat} {yret : Option FieldType} {yrm : Room} {idx : Nat} {ps : List FieldType} {yr : Option FieldType} {a : Addr} {w : Value} (argsL : List Value)
    (w1 : (Jvm.Cond.methodLink own idx y).before a0 Z = true) (w2 : (Jvm.Cond.instanceMethod y).before a0 Z = true) (w5 : (Jvm.Cond.privateMethod y).before a0 Z = true) {kk : Nat} (w6 : (Jvm.Cond.instantiable y.cls kk).before a0 Z = true) (w3 : (Jvm.Cond.initialized y.cls).before a0 Z = true) (w4 : (Jvm.Cond.code y ycode ymx yret).before a0 Z = true) (hy : y.cls ≠ "java/lang/invoke/MethodHandle" ∧ y.cls ≠ "java/lang/invoke/VarHandle") (E : Exa Z h a y.cls)
    (hM : own_Met K.2.1 Z n0 y ycode ymx yret yrm (.ref a :: argsL).toArray h (fun v h' => v = some w ∧ h' = h)) (hL : L.size = mx) (hd : decode code pc = .ok (.invokevirtual idx, 3)) (hp : pc + 3 = pc') (hpd : parseMethodDescriptor y.desc = some ⟨ps, yr⟩) (hlen : argsL.length = ps.length) (hS : S = argsL.reverse ++ .ref a :: rest)
    (W : Nat) (hW : (rest.map fun v => v.category).sum ≤ W) (hf : yrm.frames + 1 ≤ rm.frames) (hl : W + (ymx + 11) + yrm.locals ≤ rm.locals) (hc0 : yrm.cells = 0) (hs0 : yrm.slots = 0)
    (hr : ∀ T', own_Sx n0 K T' h cl sl → own_Fin n0 K P T' pc' L (w :: rest)) : own_Fin n0 K P T pc L S := by
  have hcs : cl ≤ rm.cells ∧ sl ≤ rm.slots := by
    obtain ⟨p, l, e, R, s, m, args, below, meth, c⟩ := K
    obtain ⟨hx, hby, hml, hown, hret, hlk, hZ, rfl, hw⟩ := M
    obtain ⟨locs, X, hN, eT, hn, hcl, hsl⟩ := X
    exact ⟨hcl, hsl⟩
  refine own_callPriv M X argsL w1 w2 w5 w6 w3 w4 hy E hM hL hd hp hpd hlen hS W hW hf hl (by rw [hc0]; exact hcs.1) (by rw [hs0]; exact hcs.2) ?_
  rintro T' h' v X' ⟨rfl, rfl⟩
  rw [hc0, hs0] at X'
  exact hr T' X'
theorem own_callPrivP0 (M : own_Mx Z a0 K code own mx ret rm) (X : own_Sx n0 K T h cl sl) {y : MethodName} {ycode : ByteArray} {ymx : Nat} {yret : Option FieldType} {yrm : Room} {idx : Nat} {ps : List FieldType} {yr : Option FieldType} {a : Addr} (argsL : List Value)
    (w1 : (Jvm.Cond.methodLink own idx y).before a0 Z = true) (w2 : (Jvm.Cond.instanceMethod y).before a0 Z = true) (w5 : (Jvm.Cond.privateMethod y).before a0 Z = true) {kk : Nat} (w6 : (Jvm.Cond.instantiable y.cls kk).before a0 Z = true) (w3 : (Jvm.Cond.initialized y.cls).before a0 Z = true) (w4 : (Jvm.Cond.code y ycode ymx yret).before a0 Z = true) (hy : y.cls ≠ "java/lang/invoke/MethodHandle" ∧ y.cls ≠ "java/lang/invoke/VarHandle") (E : Exa Z h a y.cls)
    (hM : own_Met K.2.1 Z n0 y ycode ymx yret yrm (.ref a :: argsL).toArray h (fun v h' => v = none ∧ h' = h)) (hL : L.size = mx) (hd : decode code pc = .ok (.invokevirtual idx, 3)) (hp : pc + 3 = pc') (hpd : parseMethodDescriptor y.desc = some ⟨ps, yr⟩) (hlen : argsL.length = ps.length) (hS : S = argsL.reverse ++ .ref a :: rest)
    (W : Nat) (hW : (rest.map fun v => v.category).sum ≤ W) (hf : yrm.frames + 1 ≤ rm.frames) (hl : W + (ymx + 11) + yrm.locals ≤ rm.locals) (hc0 : yrm.cells = 0) (hs0 : yrm.slots = 0)
    (hr : ∀ T', own_Sx n0 K T' h cl sl → own_Fin n0 K P T' pc' L (rest)) : own_Fin n0 K P T pc L S := by
  have hcs : cl ≤ rm.cells ∧ sl ≤ rm.slots := by
    obtain ⟨p, l, e, R, s, m, args, below, meth, c⟩ := K
    obtain ⟨hx, hby, hml, hown, hret, hlk, hZ, rfl, hw⟩ := M
    obtain ⟨locs, X, hN, eT, hn, hcl, hsl⟩ := X
    exact ⟨hcl, hsl⟩
  refine own_callPriv M X argsL w1 w2 w5 w6 w3 w4 hy E hM hL hd hp hpd hlen hS W hW hf hl (by rw [hc0]; exact hcs.1) (by rw [hs0]; exact hcs.2) ?_
  rintro T' h' v X' ⟨rfl, rfl⟩
  rw [hc0, hs0] at X'
  exact hr T' X'
theorem own_Va.arv {a : Addr} {ty : FieldType} {n : Nat} {f : Nat → Value} (V : own_Va Z h a ty n f) : ∃ k, ∀ dv, Arv Z h a k ty (Int32.ofNat n) ((List.range n).map f) dv := by
  obtain ⟨c, A, r1, r2, r3, r4⟩ := V
  have e : (Int32.ofNat n).toInt = n := Int32.toInt_ofNat_of_lt r2
  have g : ∀ dv j, j < n → ((List.range n).map f).getD j dv = f j := fun dv j hj => by simp [List.getD, hj]
  refine ⟨c.cls, fun dv => ⟨c, A, rfl, by rw [own_nat e]; exact r1, by rw [Int32.lt_iff_toInt_lt, e, Int32.toInt_zero]; omega, fun j hj => ?_, fun j hj => ?_⟩⟩
  · rw [g dv j (by omega)]; exact r3 j (by omega)
  · rw [g dv j (by omega)]; exact r4 j (by omega)
theorem own_Va.of_arv {a : Addr} {ty : FieldType} {n : Nat} {k : ClassId} {z : Int32} {vs : List Value} {dv : Value} {f : Nat → Value} (V : Arv Z h a k ty z vs dv) (hz : z.toInt = n) (hf : ∀ j, j < n → vs.getD j dv = f j) : own_Va Z h a ty n f := by
  obtain ⟨c, A, -, S, -, H, G⟩ := V
  rw [own_nat hz] at S
  exact ⟨c, A, S, by have := z.toInt_lt; omega, fun j hj => by rw [← hf j hj]; exact H j (by omega), fun j hj => by rw [← hf j hj]; exact G j (by omega)⟩
theorem own_cpl {α : Type} (f g : Nat → α) (na nb i j k t : Nat) (h4 : i + k ≤ na) (h5 : j + k ≤ nb) (ht : t < nb) (d : α) :
    (((List.range nb).map g).take j ++ (List.range k).map (fun q => ((List.range na).map f).getD (i + q) d) ++ ((List.range nb).map g).drop (j + k)).getD t d = if j ≤ t ∧ t < j + k then f (i + (t - j)) else g t := by
  have e1 : min j nb = j := by omega
  rw [List.getD_eq_getElem?_getD, List.getElem?_append, List.getElem?_append]
  simp only [List.length_append, List.length_take, List.length_map, List.length_range, e1]
  by_cases q1 : t < j
  · have n1 : ¬ (j ≤ t ∧ t < j + k) := by omega
    have n2 : t < j + k := by omega
    rw [if_neg n1, if_pos n2, if_pos q1, List.getElem?_take, if_pos q1]
    simp [ht]
  · by_cases q2 : t < j + k
    · have n1 : j ≤ t ∧ t < j + k := by omega
      have n2 : t - j < k := by omega
      have n3 : i + (t - j) < na := by omega
      rw [if_pos n1, if_pos q2, if_neg q1]
      simp [n2, n3]
    · have n1 : ¬ (j ≤ t ∧ t < j + k) := by omega
      have n3 : j + k + (t - (j + k)) = t := by omega
      rw [if_neg n1, if_neg q2, List.getElem?_drop, n3]
      simp [ht]
theorem own_arraycopy (M : own_Mx Z a0 K code own mx ret rm) (X : own_Sx n0 K T h cl sl) {idx : Nat} {a b : Addr} {ty : FieldType} {na nb i j k : Nat} {f g : Nat → Value} {sp dp nn : Int32}
    (w1 : (Jvm.Cond.methodLink own idx Jvm.Stand.acN).before a0 Z = true) (w2 : (Jvm.Cond.native Jvm.Stand.acN).before a0 Z = true) (w3 : (Jvm.Cond.static Jvm.Stand.acN).before a0 Z = true) (w4 : (Jvm.Cond.initialized "java/lang/System").before a0 Z = true)
    (A : own_Va Z h a ty na f) (B : own_Va Z h b ty nb g) (hty : refKind ty = false) (hsp : sp.toInt = i) (hdp : dp.toInt = j) (hnn : nn.toInt = k) (h4 : i + k ≤ na) (h5 : j + k ≤ nb) (hgb : n0 ≤ b) (hL : L.size = mx) (hd : decode code pc = .ok (.invokestatic idx, 3)) (hp : pc + 3 = pc')
    (hf : 1 ≤ rm.frames) (W : Nat) (hW : (S.map fun v => v.category).sum ≤ W) (hlo : W + 18 ≤ rm.locals)
    (hr : ∀ T' h', own_Sx n0 K T' h' cl sl → Keep h h' [b] → own_Va Z h' b ty nb (fun t => if j ≤ t ∧ t < j + k then f (i + (t - j)) else g t) → own_Fin n0 K P T' pc' L S) : own_Fin n0 K P T pc L (.int nn :: .int dp :: .ref b :: .int sp :: .ref a :: S) := by
  obtain ⟨p, l, e, R, s, m, args, below, meth, c⟩ := K
  obtain ⟨hx, hby, hml, hown, hret, hlk, hZ, rfl, hw⟩ := M
  obtain ⟨locs, X, hN, eT, hn, hcl, hsl⟩ := X
  have sa := A.small
  have sb := B.small
  obtain ⟨ka, A⟩ := A.arv
  obtain ⟨kb, B⟩ := B.arv
  have ea : (Int32.ofNat na).toInt = na := Int32.toInt_ofNat_of_lt sa
  have eb : (Int32.ofNat nb).toInt = nb := Int32.toInt_ofNat_of_lt sb
  have nneg : ∀ {x : Int32} {q : Nat}, x.toInt = q → ¬ x < 0 := fun {x q} z => by rw [Int32.lt_iff_toInt_lt, z, Int32.toInt_zero]; omega
  obtain ⟨T1, h1, L1, X1, e1, N1, K1, B1, st⟩ := cpA X hx hZ hown w1 w2 w3 w4 eT (A .null) (B .null) (Or.inl ⟨rfl, hty⟩) (nneg hsp) (nneg hdp) (nneg hnn) (by rw [own_nat hsp, own_nat hnn, own_nat ea]; exact h4) (by rw [own_nat hdp, own_nat hnn, own_nat eb]; exact h5) rfl (by simp [own_nat hdp, own_nat hnn]; exact h5) hN hgb (g := mkF m pc L (.int nn :: .int dp :: .ref b :: .int sp :: .ref a :: S)) rfl (by rw [hml]; exact hL) rfl (hb hby hd) hf (W := W) (by show 2 * 0 + _ ≤ W; omega) hlo
  subst hp
  obtain ⟨s2, o2, st2, r⟩ := hr T1 h1 ⟨_, X1, N1, e1, hn, hcl, hsl⟩ K1 (own_Va.of_arv B1 eb (fun t ht => by
    rw [own_nat hsp, own_nat hdp, own_nat hnn]
    exact own_cpl f g na nb i j k t h4 h5 ht .null))
  exact ⟨s2, o2, st _ st2, r⟩
end OwnLayer
theorem own_pd0 : parseMethodDescriptor "()V" = some ⟨[], none⟩ := by decide +kernel
theorem own_pd1 : parseMethodDescriptor "(JLcom/example/london_wall/londonwall/model/Message;ZJ)V" = some ⟨[.long, (.object "com/example/london_wall/londonwall/model/Message"), .boolean, .long], none⟩ := by decide +kernel
theorem own_pd2 : parseMethodDescriptor "(J)Z" = some ⟨[.long], some .boolean⟩ := by decide +kernel
theorem own_pd3 : parseMethodDescriptor "(JJ)J" = some ⟨[.long, .long], some .long⟩ := by decide +kernel
theorem own_nb {i : Int32} (h : i = 0 ∨ i = 1) : narrow .boolean (.int i) = .int i := by rcases h with rfl | rfl <;> rfl
theorem own_fb {i : Int32} (h : i = 0 ∨ i = 1) : fits .boolean (.int i) = true := by rcases h with rfl | rfl <;> rfl
theorem d5_0 : decode jdk_29_method_66_code 0 = .ok (.lload_n 0, 1) := by decide +kernel
theorem d5_1 : decode jdk_29_method_66_code 1 = .ok (.lload_n 2, 1) := by decide +kernel
theorem d5_2 : decode jdk_29_method_66_code 2 = .ok (.lcmp, 1) := by decide +kernel
theorem d5_3 : decode jdk_29_method_66_code 3 = .ok (.ifCond .lt 7, 3) := by decide +kernel
theorem d5_6 : decode jdk_29_method_66_code 6 = .ok (.lload_n 0, 1) := by decide +kernel
theorem d5_7 : decode jdk_29_method_66_code 7 = .ok (.goto 4, 3) := by decide +kernel
theorem d5_10 : decode jdk_29_method_66_code 10 = .ok (.lload_n 2, 1) := by decide +kernel
theorem d5_11 : decode jdk_29_method_66_code 11 = .ok (.lreturn, 1) := by decide +kernel
def F5 (x0 : Int64) (x1 : Int64) : Int64 := (if x0 < x1 then x1 else x0)
set_option maxRecDepth 65536 in
set_option maxHeartbeats 40000000 in
theorem met_5 (l : Launch) (Z : State) (a0 : Array Value) (hw : ∀ d ∈ tables_1, d.before a0 Z = true) (h0 : Heap) (n0 : Nat) (hn : n0 ≤ h0.size) (x0 : Int64) (x1 : Int64) : own_Met l Z n0 (⟨"java/lang/Math", "max", "(JJ)J"⟩ : MethodName) jdk_29_method_66_code 4 (some .long) ({ frames := 0, cells := 0, slots := 0, locals := 0 } : Room) #[(.long x0), (.long x1)] h0 (fun v h => v = some (.long (F5 x0 x1)) ∧ h = h0) := by
  refine own_enter (L := #[.val (.long x0), .second, .val (.long x1), .second]) (Jvm.Free.JP.mathPlain rfl (by decide +kernel)) hw hn (fun m => by first | (simp [entryFrame, mkF, argsToLocals, Value.category]; done) | rfl) (fun K T hK M X => ?_)
  refine own_lloadN M X d5_0 rfl rfl ?_
  refine own_lloadN M X d5_1 rfl rfl ?_
  refine own_lcmp_lt M X d5_2 rfl d5_3 (by decide) rfl rfl (fun q1 => ?_) (fun q1 => ?_)
  · skip
    refine own_lloadN M X d5_10 rfl rfl ?_
    exact own_retJ M X d5_11 ⟨by rw [F5, if_pos q1], rfl⟩
  · skip
    refine own_lloadN M X d5_6 rfl rfl ?_
    refine own_goto M X d5_7 (by decide) rfl ?_
    exact own_retJ M X d5_11 ⟨by rw [F5, if_neg q1], rfl⟩
theorem d2_0 : decode jdk_30_method_1_code 0 = .ok (.aload_n 0, 1) := by decide +kernel
theorem d2_1 : decode jdk_30_method_1_code 1 = .ok (.invokespecial 1, 3) := by decide +kernel
theorem d2_4 : decode jdk_30_method_1_code 4 = .ok (.return_, 1) := by decide +kernel
theorem own_pn2 : plainName "java/lang/Record" = true := by first | (simp [plainName, overriddenIn]; done) | decide +kernel
set_option maxRecDepth 65536 in
set_option maxHeartbeats 40000000 in
theorem met_2 (l : Launch) (Z : State) (a0 : Array Value) (hw : ∀ d ∈ tables_1, d.before a0 Z = true) (h0 : Heap) (n0 : Nat) (hn : n0 ≤ h0.size) (o0 : Addr) : own_Met l Z n0 (⟨"java/lang/Record", "<init>", "()V"⟩ : MethodName) jdk_30_method_1_code 1 none ({ frames := 1, cells := 0, slots := 0, locals := 12 } : Room) #[(.ref o0)] h0 (fun v h => v = none ∧ h = h0) := by
  refine own_enter (L := #[.val (.ref o0)]) (plainFor_of_name own_pn2) hw hn (fun m => by first | (simp [entryFrame, mkF, argsToLocals, Value.category]; done) | rfl) (fun K T hK M X => ?_)
  refine own_aloadN M X d2_0 rfl rfl rfl ?_
  refine own_initO M X (hw _ (List.mem_of_getElem? (i := 11) rfl)) (hw _ (List.mem_of_getElem? (i := 12) rfl)) (hw _ (List.mem_of_getElem? (i := 13) rfl)) rfl d2_1 rfl (by decide) 0 (Nat.le_of_eq rfl) (by decide) ?_
  intro T1 X2
  exact own_retV M X2 d2_4 ⟨rfl, rfl⟩
theorem d1_0 : decode prog_14_method_1_code 0 = .ok (.aload_n 0, 1) := by decide +kernel
theorem d1_1 : decode prog_14_method_1_code 1 = .ok (.invokespecial 3, 3) := by decide +kernel
theorem d1_4 : decode prog_14_method_1_code 4 = .ok (.aload_n 0, 1) := by decide +kernel
theorem d1_5 : decode prog_14_method_1_code 5 = .ok (.lload_n 1, 1) := by decide +kernel
theorem d1_6 : decode prog_14_method_1_code 6 = .ok (.putfield 9, 3) := by decide +kernel
theorem d1_9 : decode prog_14_method_1_code 9 = .ok (.aload_n 0, 1) := by decide +kernel
theorem d1_10 : decode prog_14_method_1_code 10 = .ok (.aload_n 3, 1) := by decide +kernel
theorem d1_11 : decode prog_14_method_1_code 11 = .ok (.putfield 15, 3) := by decide +kernel
theorem d1_14 : decode prog_14_method_1_code 14 = .ok (.aload_n 0, 1) := by decide +kernel
theorem d1_15 : decode prog_14_method_1_code 15 = .ok (.iload 4, 2) := by decide +kernel
theorem d1_17 : decode prog_14_method_1_code 17 = .ok (.putfield 19, 3) := by decide +kernel
theorem d1_20 : decode prog_14_method_1_code 20 = .ok (.aload_n 0, 1) := by decide +kernel
theorem d1_21 : decode prog_14_method_1_code 21 = .ok (.lload 5, 2) := by decide +kernel
theorem d1_23 : decode prog_14_method_1_code 23 = .ok (.putfield 23, 3) := by decide +kernel
theorem d1_26 : decode prog_14_method_1_code 26 = .ok (.return_, 1) := by decide +kernel
theorem own_pn1 : plainName "com/example/london_wall/londonwall/model/QueuedMessage" = true := by first | (simp [plainName, overriddenIn]; done) | decide +kernel
set_option maxRecDepth 65536 in
set_option maxHeartbeats 40000000 in
theorem met_1 (l : Launch) (Z : State) (a0 : Array Value) (hw : ∀ d ∈ tables_1, d.before a0 Z = true) (h0 : Heap) (n0 : Nat) (hn : n0 ≤ h0.size) (o0 : Addr) (j1 : Int64) (i3 : Int32) (j4 : Int64) (hz : i3 = 0 ∨ i3 = 1) (ge0 : n0 ≤ o0) (E0 : Exa Z h0 o0 "com/example/london_wall/londonwall/model/QueuedMessage") (F_sequence : Fld Z h0 o0 "com/example/london_wall/londonwall/model/QueuedMessage" "sequence" "J" (.long (0 : Int64))) (F_message : Fld Z h0 o0 "com/example/london_wall/londonwall/model/QueuedMessage" "message" "Lcom/example/london_wall/londonwall/model/Message;" .null) (F_redelivered : Fld Z h0 o0 "com/example/london_wall/londonwall/model/QueuedMessage" "redelivered" "Z" (.int (0 : Int32))) (F_expires : Fld Z h0 o0 "com/example/london_wall/londonwall/model/QueuedMessage" "expires" "J" (.long (0 : Int64))) : own_Met l Z n0 (⟨"com/example/london_wall/londonwall/model/QueuedMessage", "<init>", "(JLcom/example/london_wall/londonwall/model/Message;ZJ)V"⟩ : MethodName) prog_14_method_1_code 7 none ({ frames := 2, cells := 0, slots := 0, locals := 24 } : Room) #[(.ref o0), (.long j1), .null, (.int i3), (.long j4)] h0 (fun v h => v = none ∧ Keep h0 h [o0] ∧ Exa Z h o0 "com/example/london_wall/londonwall/model/QueuedMessage" ∧ Fld Z h o0 "com/example/london_wall/londonwall/model/QueuedMessage" "expires" "J" (.long j4)) := by
  refine own_enter (L := #[.val (.ref o0), .val (.long j1), .second, .val .null, .val (.int i3), .val (.long j4), .second]) (plainFor_of_name own_pn1) hw hn (fun m => by first | (simp [entryFrame, mkF, argsToLocals, Value.category]; done) | rfl) (fun K T hK M X => ?_)
  refine own_aloadN M X d1_0 rfl rfl rfl ?_
  refine own_callNP0 M X (yrm := ({ frames := 1, cells := 0, slots := 0, locals := 12 } : Room)) [] (hw _ (List.mem_of_getElem? (i := 6) rfl)) (hw _ (List.mem_of_getElem? (i := 7) rfl)) (hw _ (List.mem_of_getElem? (i := 9) rfl)) (hw _ (List.mem_of_getElem? (i := 10) rfl)) (by decide) rfl rfl (met_2 _ Z a0 hw h0 n0 X.size o0) rfl d1_1 rfl own_pd0 rfl rfl 0 (Nat.le_of_eq rfl) (by decide) (by decide) rfl rfl ?_
  intro T1 X2
  refine own_aloadN M X2 d1_4 rfl rfl rfl ?_
  refine own_lloadN M X2 d1_5 rfl rfl ?_
  refine own_putfield M X2 (hw _ (List.mem_of_getElem? (i := 14) rfl)) F_sequence E0 (Or.inr ⟨(hw _ (List.mem_of_getElem? (i := 15) rfl)), rfl, hK⟩) (hw _ (List.mem_of_getElem? (i := 1) rfl)) (ty := .long) (by decide) rfl rfl ge0 d1_6 rfl ?_
  intro T3 h4 X5 W6
  have F7 := Fld.same W6 F_sequence
  have KK8 := (Keep.refl h0 [o0]).wr W6 (Or.inl (List.mem_of_getElem? (i := 0) rfl))
  have E9 := Exa.wr W6 E0
  have F10 := Fld.other W6 F_message (Or.inr (slot_ne (Or.inr (hw _ (List.mem_of_getElem? (i := 17) rfl))) (Or.inr (hw _ (List.mem_of_getElem? (i := 15) rfl))) (by decide) (t := (.object "com/example/london_wall/londonwall/model/Message")) (t' := .long) (by decide) (by decide)))
  have F11 := Fld.other W6 F_redelivered (Or.inr (slot_ne (Or.inr (hw _ (List.mem_of_getElem? (i := 19) rfl))) (Or.inr (hw _ (List.mem_of_getElem? (i := 15) rfl))) (by decide) (t := .boolean) (t' := .long) (by decide) (by decide)))
  have F12 := Fld.other W6 F_expires (Or.inr (slot_ne (Or.inr (hw _ (List.mem_of_getElem? (i := 21) rfl))) (Or.inr (hw _ (List.mem_of_getElem? (i := 15) rfl))) (by decide) (t := .long) (t' := .long) (by decide) (by decide)))
  refine own_aloadN M X5 d1_9 rfl rfl rfl ?_
  refine own_aloadN M X5 d1_10 rfl rfl rfl ?_
  refine own_putfield M X5 (hw _ (List.mem_of_getElem? (i := 16) rfl)) F10 E9 (Or.inr ⟨(hw _ (List.mem_of_getElem? (i := 17) rfl)), rfl, hK⟩) (hw _ (List.mem_of_getElem? (i := 1) rfl)) (ty := (.object "com/example/london_wall/londonwall/model/Message")) (by decide) rfl rfl ge0 d1_11 rfl ?_
  intro T13 h14 X15 W16
  have F17 := Fld.same W16 F10
  have KK18 := (KK8).wr W16 (Or.inl (List.mem_of_getElem? (i := 0) rfl))
  have E19 := Exa.wr W16 E9
  have F20 := Fld.other W16 F7 (Or.inr (slot_ne (Or.inr (hw _ (List.mem_of_getElem? (i := 15) rfl))) (Or.inr (hw _ (List.mem_of_getElem? (i := 17) rfl))) (by decide) (t := .long) (t' := (.object "com/example/london_wall/londonwall/model/Message")) (by decide) (by decide)))
  have F21 := Fld.other W16 F11 (Or.inr (slot_ne (Or.inr (hw _ (List.mem_of_getElem? (i := 19) rfl))) (Or.inr (hw _ (List.mem_of_getElem? (i := 17) rfl))) (by decide) (t := .boolean) (t' := (.object "com/example/london_wall/londonwall/model/Message")) (by decide) (by decide)))
  have F22 := Fld.other W16 F12 (Or.inr (slot_ne (Or.inr (hw _ (List.mem_of_getElem? (i := 21) rfl))) (Or.inr (hw _ (List.mem_of_getElem? (i := 17) rfl))) (by decide) (t := .long) (t' := (.object "com/example/london_wall/londonwall/model/Message")) (by decide) (by decide)))
  refine own_aloadN M X15 d1_14 rfl rfl rfl ?_
  refine own_iload M X15 d1_15 rfl rfl ?_
  refine own_putfield M X15 (hw _ (List.mem_of_getElem? (i := 18) rfl)) F21 E19 (Or.inr ⟨(hw _ (List.mem_of_getElem? (i := 19) rfl)), rfl, hK⟩) (hw _ (List.mem_of_getElem? (i := 1) rfl)) (ty := .boolean) (by decide) (own_nb hz) (own_fb hz) ge0 d1_17 rfl ?_
  intro T23 h24 X25 W26
  have F27 := Fld.same W26 F21
  have KK28 := (KK18).wr W26 (Or.inl (List.mem_of_getElem? (i := 0) rfl))
  have E29 := Exa.wr W26 E19
  have F30 := Fld.other W26 F20 (Or.inr (slot_ne (Or.inr (hw _ (List.mem_of_getElem? (i := 15) rfl))) (Or.inr (hw _ (List.mem_of_getElem? (i := 19) rfl))) (by decide) (t := .long) (t' := .boolean) (by decide) (by decide)))
  have F31 := Fld.other W26 F17 (Or.inr (slot_ne (Or.inr (hw _ (List.mem_of_getElem? (i := 17) rfl))) (Or.inr (hw _ (List.mem_of_getElem? (i := 19) rfl))) (by decide) (t := (.object "com/example/london_wall/londonwall/model/Message")) (t' := .boolean) (by decide) (by decide)))
  have F32 := Fld.other W26 F22 (Or.inr (slot_ne (Or.inr (hw _ (List.mem_of_getElem? (i := 21) rfl))) (Or.inr (hw _ (List.mem_of_getElem? (i := 19) rfl))) (by decide) (t := .long) (t' := .boolean) (by decide) (by decide)))
  refine own_aloadN M X25 d1_20 rfl rfl rfl ?_
  refine own_lload M X25 d1_21 rfl rfl ?_
  refine own_putfield M X25 (hw _ (List.mem_of_getElem? (i := 20) rfl)) F32 E29 (Or.inr ⟨(hw _ (List.mem_of_getElem? (i := 21) rfl)), rfl, hK⟩) (hw _ (List.mem_of_getElem? (i := 1) rfl)) (ty := .long) (by decide) rfl rfl ge0 d1_23 rfl ?_
  intro T33 h34 X35 W36
  have F37 := Fld.same W36 F32
  have KK38 := (KK28).wr W36 (Or.inl (List.mem_of_getElem? (i := 0) rfl))
  have E39 := Exa.wr W36 E29
  have F40 := Fld.other W36 F30 (Or.inr (slot_ne (Or.inr (hw _ (List.mem_of_getElem? (i := 15) rfl))) (Or.inr (hw _ (List.mem_of_getElem? (i := 21) rfl))) (by decide) (t := .long) (t' := .long) (by decide) (by decide)))
  have F41 := Fld.other W36 F31 (Or.inr (slot_ne (Or.inr (hw _ (List.mem_of_getElem? (i := 17) rfl))) (Or.inr (hw _ (List.mem_of_getElem? (i := 21) rfl))) (by decide) (t := (.object "com/example/london_wall/londonwall/model/Message")) (t' := .long) (by decide) (by decide)))
  have F42 := Fld.other W36 F27 (Or.inr (slot_ne (Or.inr (hw _ (List.mem_of_getElem? (i := 19) rfl))) (Or.inr (hw _ (List.mem_of_getElem? (i := 21) rfl))) (by decide) (t := .boolean) (t' := .long) (by decide) (by decide)))
  exact own_retV M X35 d1_26 ⟨rfl, KK38, E39, F37⟩
theorem d4_0 : decode prog_14_method_2_code 0 = .ok (.aload_n 0, 1) := by decide +kernel
theorem d4_1 : decode prog_14_method_2_code 1 = .ok (.getfield 23, 3) := by decide +kernel
theorem d4_4 : decode prog_14_method_2_code 4 = .ok (.lload_n 1, 1) := by decide +kernel
theorem d4_5 : decode prog_14_method_2_code 5 = .ok (.lcmp, 1) := by decide +kernel
theorem d4_6 : decode prog_14_method_2_code 6 = .ok (.ifCond .gt 7, 3) := by decide +kernel
theorem d4_9 : decode prog_14_method_2_code 9 = .ok (.iconst 1, 1) := by decide +kernel
theorem d4_10 : decode prog_14_method_2_code 10 = .ok (.goto 4, 3) := by decide +kernel
theorem d4_13 : decode prog_14_method_2_code 13 = .ok (.iconst 0, 1) := by decide +kernel
theorem d4_14 : decode prog_14_method_2_code 14 = .ok (.ireturn, 1) := by decide +kernel
theorem own_pn4 : plainName "com/example/london_wall/londonwall/model/QueuedMessage" = true := by first | (simp [plainName, overriddenIn]; done) | decide +kernel
def F4 (je : Int64) (j1 : Int64) : Int32 := (if j1 < je then (0 : Int32) else (1 : Int32))
set_option maxRecDepth 65536 in
set_option maxHeartbeats 40000000 in
theorem met_4 (l : Launch) (Z : State) (a0 : Array Value) (hw : ∀ d ∈ tables_1, d.before a0 Z = true) (h0 : Heap) (n0 : Nat) (hn : n0 ≤ h0.size) (o0 : Addr) (j1 : Int64) (je : Int64) (F_e : Fld Z h0 o0 "com/example/london_wall/londonwall/model/QueuedMessage" "expires" "J" (.long je)) : own_Met l Z n0 (⟨"com/example/london_wall/londonwall/model/QueuedMessage", "expired", "(J)Z"⟩ : MethodName) prog_14_method_2_code 3 (some .boolean) ({ frames := 0, cells := 0, slots := 0, locals := 0 } : Room) #[(.ref o0), (.long j1)] h0 (fun v h => v = some (.int (F4 je j1)) ∧ h = h0) := by
  refine own_enter (L := #[.val (.ref o0), .val (.long j1), .second]) (plainFor_of_name own_pn4) hw hn (fun m => by first | (simp [entryFrame, mkF, argsToLocals, Value.category]; done) | rfl) (fun K T hK M X => ?_)
  refine own_aloadN M X d4_0 rfl rfl rfl ?_
  refine own_getfield M X (hw _ (List.mem_of_getElem? (i := 20) rfl)) F_e d4_1 rfl ?_
  intro T1 X2
  refine own_lloadN M X2 d4_4 rfl rfl ?_
  refine own_lcmp_gt M X2 d4_5 rfl d4_6 (by decide) rfl rfl (fun q3 => ?_) (fun q3 => ?_)
  · skip
    refine own_iconst M X2 (v := (0 : Int32)) d4_13 rfl rfl ?_
    exact own_retN M X2 (z' := (0 : Int32)) (by simp) d4_14 rfl ⟨by rw [F4, if_pos q3], rfl⟩
  · skip
    refine own_iconst M X2 (v := (1 : Int32)) d4_9 rfl rfl ?_
    refine own_goto M X2 d4_10 (by decide) rfl ?_
    exact own_retN M X2 (z' := (1 : Int32)) (by simp) d4_14 rfl ⟨by rw [F4, if_neg q3], rfl⟩
def g0_0_s0 (u6 : Int32) : Int32 := (if (u6 &&& (1 : Int32)) = (0 : Int32) then (0 : Int32) else (1 : Int32))
theorem own_flag (x : Int32) : g0_0_s0 x = 0 ∨ g0_0_s0 x = 1 := by unfold g0_0_s0; split <;> simp
set_option maxRecDepth 65536 in
set_option maxHeartbeats 40000000 in
theorem sg0_0 (l : Launch) (Z : State) (a0 : Array Value) (hw : ∀ d ∈ tables_1, d.before a0 Z = true) {n0 : Nat} {K : own_Cx} {P : Option Value → Heap → Prop} {T : State} {h : Heap} {cl sl : Nat} (M : own_Mx Z a0 K code "com/example/london_wall/londonwall/model/QueuedMessageExpiredPinLaw" maxLocals ret room_1) (X : own_Sx n0 K T h cl sl) (u0 : Int64) (u2 : Int64) (u4 : Int64) (u6 : Int32)
    (hr : ∀ T', own_Sx n0 K T' h cl sl → own_Fin n0 K P T' 12 #[.val (.long u0), .second, .val (.long u2), .second, .val (.long u4), .second, .val (.int u6), .unset, .unset, .unset, .unset, .unset, .unset] [(.int (g0_0_s0 u6))]) : own_Fin n0 K P T 0 #[.val (.long u0), .second, .val (.long u2), .second, .val (.long u4), .second, .val (.int u6), .unset, .unset, .unset, .unset, .unset, .unset] [] := by
  refine own_iload M X at_0 rfl rfl ?_
  refine own_iconst M X (v := (1 : Int32)) at_2 rfl rfl ?_
  refine own_iand M X at_3 rfl ?_
  refine own_if_eq M X at_4 (by decide) rfl rfl (fun q1 => ?_) (fun q1 => ?_)
  · skip
    refine own_iconst M X (v := (0 : Int32)) at_11 rfl rfl ?_
    have hr1 := hr T X
    rw [g0_0_s0, if_pos q1] at hr1
    exact hr1
  · skip
    refine own_iconst M X (v := (1 : Int32)) at_7 rfl rfl ?_
    refine own_goto M X at_8 (by decide) rfl ?_
    have hr1 := hr T X
    rw [g0_0_s0, if_neg q1] at hr1
    exact hr1
def g0_42_s0 (u2 : Int64) (t0 : Int64) : Int32 := (if t0 = u2 then (1 : Int32) else (0 : Int32))
set_option maxRecDepth 65536 in
set_option maxHeartbeats 40000000 in
theorem sg0_42 (l : Launch) (Z : State) (a0 : Array Value) (hw : ∀ d ∈ tables_1, d.before a0 Z = true) {n0 : Nat} {K : own_Cx} {P : Option Value → Heap → Prop} {T : State} {h : Heap} {cl sl : Nat} (M : own_Mx Z a0 K code "com/example/london_wall/londonwall/model/QueuedMessageExpiredPinLaw" maxLocals ret room_1) (X : own_Sx n0 K T h cl sl) (u0 : Int64) (u2 : Int64) (u4 : Int64) (u6 : Int32) (u7 : Int32) (u8 : Addr) (u9 : Int32) (t0 : Int64)
    (hr : ∀ T', own_Sx n0 K T' h cl sl → own_Fin n0 K P T' 52 #[.val (.long u0), .second, .val (.long u2), .second, .val (.long u4), .second, .val (.int u6), .val (.int u7), .val (.ref u8), .val (.int u9), .unset, .unset, .unset] [(.int (g0_42_s0 u2 t0))]) : own_Fin n0 K P T 42 #[.val (.long u0), .second, .val (.long u2), .second, .val (.long u4), .second, .val (.int u6), .val (.int u7), .val (.ref u8), .val (.int u9), .unset, .unset, .unset] [(.long t0)] := by
  refine own_lloadN M X at_42 rfl rfl ?_
  refine own_lcmp_ne M X at_43 rfl at_44 (by decide) rfl rfl (fun q1 => ?_) (fun q1 => ?_)
  · skip
    refine own_iconst M X (v := (0 : Int32)) at_51 rfl rfl ?_
    have hr1 := hr T X
    rw [g0_42_s0, if_neg q1] at hr1
    exact hr1
  · skip
    refine own_iconst M X (v := (1 : Int32)) at_47 rfl rfl ?_
    refine own_goto M X at_48 (by decide) rfl ?_
    have hr1 := hr T X
    rw [g0_42_s0, if_pos q1] at hr1
    exact hr1
def T0_91 (u9 : Int32) (u10 : Int32) (u11 : Int32) (u12 : Int32) : Int32 := (if u9 = u10 then (if u11 = (0 : Int32) then (0 : Int32) else (if u12 = (0 : Int32) then (0 : Int32) else (1 : Int32))) else (0 : Int32))
set_option maxRecDepth 65536 in
set_option maxHeartbeats 40000000 in
theorem tl0_91 (l : Launch) (Z : State) (a0 : Array Value) (hw : ∀ d ∈ tables_1, d.before a0 Z = true) {n0 : Nat} {K : own_Cx} {P : Option Value → Heap → Prop} {T : State} {h : Heap} (M : own_Mx Z a0 K code "com/example/london_wall/londonwall/model/QueuedMessageExpiredPinLaw" maxLocals ret room_1) (X : own_Sx n0 K T h 1 4) (u0 : Int64) (u2 : Int64) (u4 : Int64) (u6 : Int32) (u7 : Int32) (u8 : Addr) (u9 : Int32) (u10 : Int32) (u11 : Int32) (u12 : Int32)
    (hP : P (some (.int (T0_91 u9 u10 u11 u12))) h) : own_Fin n0 K P T 91 #[.val (.long u0), .second, .val (.long u2), .second, .val (.long u4), .second, .val (.int u6), .val (.int u7), .val (.ref u8), .val (.int u9), .val (.int u10), .val (.int u11), .val (.int u12)] [] := by
  refine own_iload M X at_91 rfl rfl ?_
  refine own_iload M X at_93 rfl rfl ?_
  refine own_icmp_ne M X at_95 (by decide) rfl rfl (fun q1 => ?_) (fun q1 => ?_)
  · skip
    refine own_iconst M X (v := (0 : Int32)) at_112 rfl rfl ?_
    exact own_retN M X (z' := (0 : Int32)) (by simp) at_113 rfl (by rw [T0_91, if_neg q1] at hP; exact hP)
  · skip
    refine own_iload M X at_98 rfl rfl ?_
    refine own_if_eq M X at_100 (by decide) rfl rfl (fun q2 => ?_) (fun q2 => ?_)
    · skip
      refine own_iconst M X (v := (0 : Int32)) at_112 rfl rfl ?_
      exact own_retN M X (z' := (0 : Int32)) (by simp) at_113 rfl (by rw [T0_91, if_pos q1, if_pos q2] at hP; exact hP)
    · skip
      refine own_iload M X at_103 rfl rfl ?_
      refine own_if_eq M X at_105 (by decide) rfl rfl (fun q3 => ?_) (fun q3 => ?_)
      · skip
        refine own_iconst M X (v := (0 : Int32)) at_112 rfl rfl ?_
        exact own_retN M X (z' := (0 : Int32)) (by simp) at_113 rfl (by rw [T0_91, if_pos q1, if_neg q2, if_pos q3] at hP; exact hP)
      · skip
        refine own_iconst M X (v := (1 : Int32)) at_108 rfl rfl ?_
        refine own_goto M X at_109 (by decide) rfl ?_
        exact own_retN M X (z' := (1 : Int32)) (by simp) at_113 rfl (by rw [T0_91, if_pos q1, if_neg q2, if_neg q3] at hP; exact hP)
def F0 (x0 : Int64) (x1 : Int64) (x2 : Int64) (x3 : Int32) : Int32 := (if x0 = (-9223372036854775808 : Int64) then (T0_91 (F4 x0 x1) (g0_42_s0 x1 (F5 x0 x1)) (F4 x0 x0) (1 : Int32)) else (if (F4 x0 (x0 - (1 : Int64))) = (0 : Int32) then (T0_91 (F4 x0 x1) (g0_42_s0 x1 (F5 x0 x1)) (F4 x0 x0) (1 : Int32)) else (T0_91 (F4 x0 x1) (g0_42_s0 x1 (F5 x0 x1)) (F4 x0 x0) (0 : Int32))))
theorem own_pn0 : plainName "com/example/london_wall/londonwall/model/QueuedMessageExpiredPinLaw" = true := by first | (simp [plainName, overriddenIn]; done) | decide +kernel
set_option maxRecDepth 65536 in
set_option maxHeartbeats 40000000 in
theorem met_0 (l : Launch) (Z : State) (a0 : Array Value) (hw : ∀ d ∈ tables_1, d.before a0 Z = true) (h0 : Heap) (n0 : Nat) (hn : n0 ≤ h0.size) (x0 : Int64) (x1 : Int64) (x2 : Int64) (x3 : Int32) : own_Met l Z n0 x code maxLocals ret room_1 #[(.long x0), (.long x1), (.long x2), (.int x3)] h0 (fun v h => v = some (.int (F0 x0 x1 x2 x3))) := by
  refine own_enter (L := #[.val (.long x0), .second, .val (.long x1), .second, .val (.long x2), .second, .val (.int x3), .unset, .unset, .unset, .unset, .unset, .unset]) (plainFor_of_name own_pn0) hw hn (fun m => by first | (simp [entryFrame, mkF, argsToLocals, Value.category, maxLocals]; done) | rfl) (fun K T hK M X => ?_)
  refine sg0_0 l Z a0 hw M X x0 x1 x2 x3 (fun T1 X2 => ?_)
  refine own_istore M X2 (L' := #[.val (.long x0), .second, .val (.long x1), .second, .val (.long x2), .second, .val (.int x3), .val (.int (g0_0_s0 x3)), .unset, .unset, .unset, .unset, .unset]) at_12 rfl rfl ?_
  refine own_new M X2 (hw _ (List.mem_of_getElem? (i := 0) rfl)) (hw _ (List.mem_of_getElem? (i := 1) rfl)) (hw _ (List.mem_of_getElem? (i := 2) rfl)) at_14 rfl (by decide) (by decide) ?_
  intro T3 h4 a5 ge6 gs7 X8 E9 A10 D11
  have F12 : Fld Z h4 a5 "com/example/london_wall/londonwall/model/QueuedMessage" "sequence" "J" (.long (0 : Int64)) := D11 (Or.inr (hw _ (List.mem_of_getElem? (i := 15) rfl))) (ty := .long) (by decide)
  have F13 : Fld Z h4 a5 "com/example/london_wall/londonwall/model/QueuedMessage" "message" "Lcom/example/london_wall/londonwall/model/Message;" .null := D11 (Or.inr (hw _ (List.mem_of_getElem? (i := 17) rfl))) (ty := (.object "com/example/london_wall/londonwall/model/Message")) (by decide)
  have F14 : Fld Z h4 a5 "com/example/london_wall/londonwall/model/QueuedMessage" "redelivered" "Z" (.int (0 : Int32)) := D11 (Or.inr (hw _ (List.mem_of_getElem? (i := 19) rfl))) (ty := .boolean) (by decide)
  have F15 : Fld Z h4 a5 "com/example/london_wall/londonwall/model/QueuedMessage" "expires" "J" (.long (0 : Int64)) := D11 (Or.inr (hw _ (List.mem_of_getElem? (i := 21) rfl))) (ty := .long) (by decide)
  refine own_dup M X8 at_17 rfl rfl ?_
  refine own_lload M X8 at_18 rfl rfl ?_
  refine own_aconst_null M X8 at_20 rfl ?_
  refine own_iload M X8 at_21 rfl rfl ?_
  refine own_lloadN M X8 at_23 rfl rfl ?_
  refine own_callN M X8 (yrm := ({ frames := 2, cells := 0, slots := 0, locals := 24 } : Room)) [(.long x2), .null, (.int (g0_0_s0 x3)), (.long x0)] (hw _ (List.mem_of_getElem? (i := 3) rfl)) (hw _ (List.mem_of_getElem? (i := 4) rfl)) (hw _ (List.mem_of_getElem? (i := 2) rfl)) (hw _ (List.mem_of_getElem? (i := 5) rfl)) (by decide) rfl rfl (met_1 _ Z a0 hw h4 n0 X8.size a5 x2 (g0_0_s0 x3) x0 (own_flag _) ge6 A10 F12 F13 F14 F15) rfl at_24 rfl own_pd1 rfl rfl 1 (Nat.le_of_eq rfl) (by decide) (by decide) (by decide) (by decide) ?_
  rintro T19 h20 v21 X22 ⟨rfl, K16, E17, F18⟩
  replace X22 : own_Sx n0 K T19 h20 1 4 := X22
  show own_Fin n0 K _ T19 27 #[.val (.long x0), .second, .val (.long x1), .second, .val (.long x2), .second, .val (.int x3), .val (.int (g0_0_s0 x3)), .unset, .unset, .unset, .unset, .unset] [(.ref a5)]
  refine own_astore M X22 (L' := #[.val (.long x0), .second, .val (.long x1), .second, .val (.long x2), .second, .val (.int x3), .val (.int (g0_0_s0 x3)), .val (.ref a5), .unset, .unset, .unset, .unset]) at_27 rfl rfl rfl ?_
  refine own_aload M X22 at_29 rfl rfl rfl ?_
  refine own_lloadN M X22 at_31 rfl rfl ?_
  refine own_callVP M X22 (yrm := ({ frames := 0, cells := 0, slots := 0, locals := 0 } : Room)) [(.long x1)] (hw _ (List.mem_of_getElem? (i := 22) rfl)) (hw _ (List.mem_of_getElem? (i := 24) rfl)) (hw _ (List.mem_of_getElem? (i := 23) rfl)) (hw _ (List.mem_of_getElem? (i := 25) rfl)) (hw _ (List.mem_of_getElem? (i := 2) rfl)) (hw _ (List.mem_of_getElem? (i := 26) rfl)) (by decide) E17 (met_4 _ Z a0 hw h20 n0 X22.size a5 x1 x0 F18) rfl at_32 rfl own_pd2 rfl rfl 0 (Nat.le_of_eq rfl) (by decide) (by decide) rfl rfl ?_
  intro T23 X24
  refine own_istore M X24 (L' := #[.val (.long x0), .second, .val (.long x1), .second, .val (.long x2), .second, .val (.int x3), .val (.int (g0_0_s0 x3)), .val (.ref a5), .val (.int (F4 x0 x1)), .unset, .unset, .unset]) at_35 rfl rfl ?_
  refine own_lloadN M X24 at_37 rfl rfl ?_
  refine own_lloadN M X24 at_38 rfl rfl ?_
  refine own_callP M X24 (yrm := ({ frames := 0, cells := 0, slots := 0, locals := 0 } : Room)) [(.long x0), (.long x1)] (hw _ (List.mem_of_getElem? (i := 27) rfl)) (hw _ (List.mem_of_getElem? (i := 28) rfl)) (hw _ (List.mem_of_getElem? (i := 29) rfl)) (hw _ (List.mem_of_getElem? (i := 30) rfl)) (by decide) (met_5 _ Z a0 hw h20 n0 X24.size x0 x1) rfl at_39 rfl own_pd3 rfl rfl 0 (Nat.le_of_eq rfl) (by decide) (by decide) rfl rfl ?_
  intro T25 X26
  refine sg0_42 l Z a0 hw M X26 x0 x1 x2 x3 (g0_0_s0 x3) a5 (F4 x0 x1) (F5 x0 x1) (fun T27 X28 => ?_)
  refine own_istore M X28 (L' := #[.val (.long x0), .second, .val (.long x1), .second, .val (.long x2), .second, .val (.int x3), .val (.int (g0_0_s0 x3)), .val (.ref a5), .val (.int (F4 x0 x1)), .val (.int (g0_42_s0 x1 (F5 x0 x1))), .unset, .unset]) at_52 rfl rfl ?_
  refine own_aload M X28 at_54 rfl rfl rfl ?_
  refine own_lloadN M X28 at_56 rfl rfl ?_
  refine own_callVP M X28 (yrm := ({ frames := 0, cells := 0, slots := 0, locals := 0 } : Room)) [(.long x0)] (hw _ (List.mem_of_getElem? (i := 22) rfl)) (hw _ (List.mem_of_getElem? (i := 24) rfl)) (hw _ (List.mem_of_getElem? (i := 23) rfl)) (hw _ (List.mem_of_getElem? (i := 25) rfl)) (hw _ (List.mem_of_getElem? (i := 2) rfl)) (hw _ (List.mem_of_getElem? (i := 26) rfl)) (by decide) E17 (met_4 _ Z a0 hw h20 n0 X28.size a5 x0 x0 F18) rfl at_57 rfl own_pd2 rfl rfl 0 (Nat.le_of_eq rfl) (by decide) (by decide) rfl rfl ?_
  intro T29 X30
  refine own_istore M X30 (L' := #[.val (.long x0), .second, .val (.long x1), .second, .val (.long x2), .second, .val (.int x3), .val (.int (g0_0_s0 x3)), .val (.ref a5), .val (.int (F4 x0 x1)), .val (.int (g0_42_s0 x1 (F5 x0 x1))), .val (.int (F4 x0 x0)), .unset]) at_60 rfl rfl ?_
  refine own_iconst M X30 (v := (1 : Int32)) at_62 rfl rfl ?_
  refine own_istore M X30 (L' := #[.val (.long x0), .second, .val (.long x1), .second, .val (.long x2), .second, .val (.int x3), .val (.int (g0_0_s0 x3)), .val (.ref a5), .val (.int (F4 x0 x1)), .val (.int (g0_42_s0 x1 (F5 x0 x1))), .val (.int (F4 x0 x0)), .val (.int (1 : Int32))]) at_63 rfl rfl ?_
  refine own_lloadN M X30 at_65 rfl rfl ?_
  refine own_ldc2_w M X30 (hw _ (List.mem_of_getElem? (i := 31) rfl)) at_66 rfl ?_
  refine own_lcmp_eq M X30 at_69 rfl at_70 (by decide) rfl rfl (fun q31 => ?_) (fun q31 => ?_)
  · skip
    exact tl0_91 l Z a0 hw M X30 x0 x1 x2 x3 (g0_0_s0 x3) a5 (F4 x0 x1) (g0_42_s0 x1 (F5 x0 x1)) (F4 x0 x0) (1 : Int32) (by rw [F0, if_pos q31])
  · skip
    refine own_aload M X30 at_73 rfl rfl rfl ?_
    refine own_lloadN M X30 at_75 rfl rfl ?_
    refine own_lconst M X30 (v := (1 : Int64)) at_76 rfl rfl ?_
    refine own_lsub M X30 at_77 rfl ?_
    refine own_callVP M X30 (yrm := ({ frames := 0, cells := 0, slots := 0, locals := 0 } : Room)) [(.long (x0 - (1 : Int64)))] (hw _ (List.mem_of_getElem? (i := 22) rfl)) (hw _ (List.mem_of_getElem? (i := 24) rfl)) (hw _ (List.mem_of_getElem? (i := 23) rfl)) (hw _ (List.mem_of_getElem? (i := 25) rfl)) (hw _ (List.mem_of_getElem? (i := 2) rfl)) (hw _ (List.mem_of_getElem? (i := 26) rfl)) (by decide) E17 (met_4 _ Z a0 hw h20 n0 X30.size a5 (x0 - (1 : Int64)) x0 F18) rfl at_78 rfl own_pd2 rfl rfl 0 (Nat.le_of_eq rfl) (by decide) (by decide) rfl rfl ?_
    intro T32 X33
    refine own_if_ne M X33 at_81 (by decide) rfl rfl (fun q34 => ?_) (fun q34 => ?_)
    · skip
      refine own_iconst M X33 (v := (0 : Int32)) at_88 rfl rfl ?_
      refine own_istore M X33 (L' := #[.val (.long x0), .second, .val (.long x1), .second, .val (.long x2), .second, .val (.int x3), .val (.int (g0_0_s0 x3)), .val (.ref a5), .val (.int (F4 x0 x1)), .val (.int (g0_42_s0 x1 (F5 x0 x1))), .val (.int (F4 x0 x0)), .val (.int (0 : Int32))]) at_89 rfl rfl ?_
      exact tl0_91 l Z a0 hw M X33 x0 x1 x2 x3 (g0_0_s0 x3) a5 (F4 x0 x1) (g0_42_s0 x1 (F5 x0 x1)) (F4 x0 x0) (0 : Int32) (by rw [F0, if_neg q31, if_neg q34])
    · skip
      refine own_iconst M X33 (v := (1 : Int32)) at_84 rfl rfl ?_
      refine own_goto M X33 at_85 (by decide) rfl ?_
      refine own_istore M X33 (L' := #[.val (.long x0), .second, .val (.long x1), .second, .val (.long x2), .second, .val (.int x3), .val (.int (g0_0_s0 x3)), .val (.ref a5), .val (.int (F4 x0 x1)), .val (.int (g0_42_s0 x1 (F5 x0 x1))), .val (.int (F4 x0 x0)), .val (.int (1 : Int32))]) at_89 rfl rfl ?_
      exact tl0_91 l Z a0 hw M X33 x0 x1 x2 x3 (g0_0_s0 x3) a5 (F4 x0 x1) (g0_42_s0 x1 (F5 x0 x1)) (F4 x0 x0) (1 : Int32) (by rw [F0, if_neg q31, if_pos q34])
theorem own_law (x0 x1 x2 : Int64) (x3 : Int32) : F0 x0 x1 x2 x3 = 1 := by
  have a1 : F4 x0 x1 = g0_42_s0 x1 (F5 x0 x1) := by
    unfold F4 g0_42_s0 F5
    simp only [Int64.lt_iff_toInt_lt]
    by_cases q1 : x0.toInt < x1.toInt
    · rw [if_neg (by omega), if_pos q1, if_pos rfl]
    · rw [if_neg q1]
      by_cases q2 : x1.toInt < x0.toInt
      · rw [if_pos q2, if_neg (fun z => by rw [z] at q2; omega)]
      · rw [if_neg q2, if_pos (Int64.toInt_inj.mp (by omega))]
  have a2 : F4 x0 x0 = 1 := by unfold F4; rw [if_neg (by rw [Int64.lt_iff_toInt_lt]; omega)]
  unfold F0 T0_91
  rw [a1, a2]
  by_cases q : x0 = (-9223372036854775808 : Int64)
  · rw [if_pos q]; simp
  · rw [if_neg q]
    have hm : (-9223372036854775808 : Int64).toInt = -9223372036854775808 := by decide
    have h1 : (1 : Int64).toInt = 1 := by decide
    have q' : ¬ x0.toInt = -9223372036854775808 := fun z => q (Int64.toInt_inj.mp (by rw [z, hm]))
    have hl := x0.le_toInt
    have hu := x0.toInt_lt
    have e : (x0 - (1 : Int64)).toInt = x0.toInt - 1 := by rw [Jvm.Kit.i64_sub (by omega) (by omega), h1]
    have a3 : F4 x0 (x0 - (1 : Int64)) = 0 := by unfold F4; rw [if_pos (by rw [Int64.lt_iff_toInt_lt]; omega)]
    rw [if_pos a3]; simp
theorem own_result (x0 : Int64) (x1 : Int64) (x2 : Int64) (x3 : Int32) {v : Option Value} (hv : v = some (.int (F0 x0 x1 x2 x3))) : v = some (.int 1) := by rw [hv, own_law x0 x1 x2 x3]
set_option maxRecDepth 65536 in
set_option maxHeartbeats 40000000 in
theorem comes_1 {Post : Tables → Env → Array Value → State → Outcome → State → Prop} (hpost : ∀ tb e args s v u, (limb_1_1.after args s (.returned v) u = true ∧ limb_1_2.after args s (.returned v) u = true ∧ True) → FrameEnd s (.returned v) u (Jvm.fieldLocs frame_1_writes args s ++ Jvm.arrayLocs frame_1_arrays args s ++ Jvm.staticLocs frame_1_statics s) 16 128 → Post tb e args s (.returned v) u) :
    ArmFor flags0 classFile x code maxLocals ret World_1 tables_1 room_1 Calls_1 rest_1 Pre_1 Post := by
  intro l hfl _ _ p e ha hc hk s m args below hf hA hF happ hP
  obtain ⟨hcalls, hrest, hpre⟩ := hP
  obtain ⟨-, -, -, hnamed, -, -, -, hat⟩ := (Spec.applies_iff hf).mp happ
  obtain ⟨hg, hn⟩ := and_e (Cond.before_iff.mp (show (Jvm.Cond.and given_1 narrow_1).before args s = true from hpre))
  obtain ⟨g1, g2⟩ := and_e hg
  obtain ⟨g3, g4⟩ := and_e g2
  obtain ⟨g5, g6⟩ := and_e g4
  obtain ⟨g7, g8⟩ := and_e g6
  obtain ⟨w0, w1, w2, w3, rfl⟩ : ∃ w0 w1 w2 w3 : Value, args = #[w0, w1, w2, w3] := by
    have hs : args.size = 4 := by simpa [Cond.value, given_1] using g1
    obtain ⟨L⟩ := args
    match L, hs with
    | [w0, w1, w2, w3], _ => exact ⟨w0, w1, w2, w3, rfl⟩
  have hw := fun d (hd : d ∈ tables_1) => atoms_spec (ws := Jvm.Cond.code x code maxLocals ret :: tables_1) hat d (List.mem_cons_of_mem _ hd)
  obtain ⟨i0, ei0⟩ := isL_v g3
  obtain rfl : w0 = (.long i0) := Option.some.inj ei0
  obtain ⟨i1, ei1⟩ := isL_v g5
  obtain rfl : w1 = (.long i1) := Option.some.inj ei1
  obtain ⟨i2, ei2⟩ := isL_v g7
  obtain rfl : w2 = (.long i2) := Option.some.inj ei2
  obtain ⟨i3, ei3⟩ := is_v g8
  obtain rfl : w3 = (.int i3) := Option.some.inj ei3
  obtain ⟨n, o, h1, h2, h3, v, L, rfl, ⟨hv, N⟩, hq⟩ := met_0 l s _ hw s.heap s.heap.size (Nat.le_refl _) i0 i1 i2 i3 tables_1 p e ha hc hk s m _ below hf ((Spec.applies_iff_loose hf).mp happ).1 ⟨rfl, State.Warmed39.refl s, rfl⟩ trivial
  obtain rfl : v = some (.int 1) := own_result i0 i1 i2 i3 hv
  refine ⟨n, _, h1, h2, h3, hpost _ _ _ _ _ _ ⟨Cond.after_iff.mpr rfl, Cond.after_iff.mpr (eq_i res_at (Term.int_eval (1)) rfl), trivial⟩ ⟨hq.1, hq.2.1, (hq.2.2.sift fun y hy => Or.inr (N y hy)).mono (by decide) (by decide)⟩⟩
theorem main_1_1 : Claimed_1_1 := comes_1 fun _ _ _ _ _ _ h hF => ⟨h.1, hF⟩
theorem main_1_2 : Claimed_1_2 := comes_1 fun _ _ _ _ _ _ h hF => ⟨h.2.1, hF⟩
end Jvm.Pilot.@@N@@
namespace Jvm.Pilot.@@N@@
open Jvm Jvm.ClassFile Sem Op Lib Jvm.Free Jvm.Stand Jvm.Pilot.@@N@@.Jvm.D
/-! MADE BY PROGRAM (witnessworld.py) out of the Statement's table words and the real class files: 11 classes; the members and pool entries that the words name. The judged class is class 1, her method 1. -/
namespace start1
open Jvm.ClassFile
def u (s : String) : CpInfo := .utf8 (stringToUtf16 s)
/-- a pool by its gaps: so many unusable entries, then the entry; so many at the end -/
def gap : Nat → List CpInfo → List CpInfo
  | 0, r => r
  | n + 1, r => .unusable :: gap n r
def poolList (es : List (Nat × CpInfo)) (last : Nat) : List CpInfo := es.foldr (fun e r => gap e.1 (e.2 :: r)) (gap last [])
def pool (es : List (Nat × CpInfo)) (last : Nat) : Array CpInfo := ⟨poolList es last⟩
def fileOf (pool : Array CpInfo) (this : Nat) (attrs : Array Attribute := #[]) (ms : Array MethodInfo := #[]) (fl : Nat := 33) (sup : Nat := 0) (ifs : Array Nat := #[]) (fds : Array FieldInfo := #[]) : ClassFile where
  minorVersion := 0
  majorVersion := 65
  constantPool := pool
  accessFlags := fl
  thisClass := this
  superClass := sup
  interfaces := ifs
  fields := fds
  methods := ms
  attributes := attrs
def plain (name : String) (sup : Option ClassId) : Class where
  name := name
  kind := .ordinary
  loader := none
  accessFlags := 33
  super := sup
  interfaces := #[]
  cf := none
  fields := #[]
  methods := #[]
  instanceTypes := #[]
  staticTypes := #[]
  resolved := #[]
  callSites := []
  init := .initialized
  statics := none
  mirror := none

def pool0 : Array CpInfo := pool [(5, u "<init>"), (0, u "()V"), (1, .class_ 10), (1, u "java/lang/Object")] 113

def k0c0 : Code := { maxStack := 0, maxLocals := 1, code := object_method_1_code, exceptionTable := #[], attributes := #[] }
def k0m0 : Method := { name := "<init>", desc := "()V", sig := { parameters := [], returnType := none }, accessFlags := 1, code := some k0c0 }
/-- java/lang/Object -/
def k0 : Class := { plain "java/lang/Object" none with
  accessFlags := 33
  interfaces := #[]
  cf := some (fileOf pool0 8 #[] #[{ accessFlags := 1, nameIndex := 5, descriptorIndex := 6, attributes := #[] }] 33 0 #[] #[])
  fields := #[]
  methods := #[k0m0]
  instanceTypes := #[]
  staticTypes := #[]
  resolved := Array.replicate 124 none
  statics := none }

def pool1 : Array CpInfo := pool [(2, .class_ 4), (1, u "java/lang/Object"), (0, u "<init>"), (0, u "()V"), (0, .class_ 8), (0, u "com/example/london_wall/londonwall/model/QueuedMessage"), (0, .methodref 7 10), (0, .nameAndType 5 11), (0, u "(JLcom/example/london_wall/londonwall/model/Message;ZJ)V"), (0, .methodref 7 13), (0, .nameAndType 14 15), (0, u "expired"), (0, u "(J)Z"), (0, .methodref 17 18), (0, .class_ 19), (0, .nameAndType 20 21), (0, u "java/lang/Math"), (0, u "max"), (0, u "(JJ)J"), (2, .long 9223372036854775808), (1, .class_ 27), (0, u "com/example/london_wall/londonwall/model/QueuedMessageExpiredPinLaw"), (2, u "law"), (0, u "(JJJI)Z")] 3

def k1m0 : Method := { name := "<init>", desc := "()V", sig := { parameters := [], returnType := none }, accessFlags := 1, code := none }
def k1c1 : Code := { maxStack := 8, maxLocals := 13, code := code, exceptionTable := #[], attributes := #[] }
def k1m1 : Method := { name := "law", desc := "(JJJI)Z", sig := { parameters := [.long, .long, .long, .int], returnType := some .boolean }, accessFlags := 9, code := some k1c1 }
/-- com/example/london_wall/londonwall/model/QueuedMessageExpiredPinLaw -/
def k1 : Class := { plain "com/example/london_wall/londonwall/model/QueuedMessageExpiredPinLaw" (some 0) with
  accessFlags := 49
  interfaces := #[]
  cf := some (fileOf pool1 26 #[] #[{ accessFlags := 1, nameIndex := 5, descriptorIndex := 6, attributes := #[] }, { accessFlags := 9, nameIndex := 30, descriptorIndex := 31, attributes := #[] }] 49 2 #[] #[])
  fields := #[]
  methods := #[k1m0, k1m1]
  instanceTypes := #[]
  staticTypes := #[]
  resolved := Array.replicate 35 none
  statics := none }

def pool2 : Array CpInfo := pool [(1, .methodref 2 3), (0, .class_ 4), (0, .nameAndType 5 6), (0, u "java/lang/Object"), (0, u "<init>"), (0, u "()V"), (0, .class_ 8), (0, u "java/lang/Record")] 13

def k2c0 : Code := { maxStack := 1, maxLocals := 1, code := jdk_30_method_1_code, exceptionTable := #[], attributes := #[] }
def k2m0 : Method := { name := "<init>", desc := "()V", sig := { parameters := [], returnType := none }, accessFlags := 4, code := some k2c0 }
/-- java/lang/Record -/
def k2 : Class := { plain "java/lang/Record" (some 0) with
  accessFlags := 1057
  interfaces := #[]
  cf := some (fileOf pool2 7 #[] #[{ accessFlags := 4, nameIndex := 5, descriptorIndex := 6, attributes := #[] }] 1057 2 #[] #[])
  fields := #[]
  methods := #[k2m0]
  instanceTypes := #[]
  staticTypes := #[]
  resolved := Array.replicate 22 none
  statics := none }

def pool3 : Array CpInfo := pool [(3, .methodref 4 5), (0, .class_ 6), (0, .nameAndType 7 8), (0, u "java/lang/Record"), (0, u "<init>"), (0, u "()V"), (0, .fieldref 10 11), (0, .class_ 12), (0, .nameAndType 13 14), (0, u "com/example/london_wall/londonwall/model/QueuedMessage"), (0, u "sequence"), (0, u "J"), (0, .fieldref 10 16), (0, .nameAndType 17 18), (0, u "message"), (0, u "Lcom/example/london_wall/londonwall/model/Message;"), (0, .fieldref 10 20), (0, .nameAndType 21 22), (0, u "redelivered"), (0, u "Z"), (0, .fieldref 10 24), (0, .nameAndType 25 14), (0, u "expires"), (12, u "NEVER"), (3, u "(JLcom/example/london_wall/londonwall/model/Message;ZJ)V"), (3, u "expired"), (0, u "(J)Z")] 30

def k3c0 : Code := { maxStack := 3, maxLocals := 7, code := prog_14_method_1_code, exceptionTable := #[], attributes := #[] }
def k3m0 : Method := { name := "<init>", desc := "(JLcom/example/london_wall/londonwall/model/Message;ZJ)V", sig := { parameters := [.long, (.object "com/example/london_wall/londonwall/model/Message"), .boolean, .long], returnType := none }, accessFlags := 1, code := some k3c0 }
def k3c1 : Code := { maxStack := 4, maxLocals := 3, code := prog_14_method_2_code, exceptionTable := #[], attributes := #[] }
def k3m1 : Method := { name := "expired", desc := "(J)Z", sig := { parameters := [.long], returnType := some .boolean }, accessFlags := 1, code := some k3c1 }
/-- com/example/london_wall/londonwall/model/QueuedMessage -/
def k3 : Class := { plain "com/example/london_wall/londonwall/model/QueuedMessage" (some 2) with
  accessFlags := 49
  interfaces := #[]
  cf := some (fileOf pool3 10 #[] #[{ accessFlags := 1, nameIndex := 7, descriptorIndex := 42, attributes := #[] }, { accessFlags := 1, nameIndex := 46, descriptorIndex := 47, attributes := #[] }] 49 4 #[] #[{ accessFlags := 18, nameIndex := 13, descriptorIndex := 14, attributes := #[] }, { accessFlags := 18, nameIndex := 17, descriptorIndex := 18, attributes := #[] }, { accessFlags := 18, nameIndex := 21, descriptorIndex := 22, attributes := #[] }, { accessFlags := 18, nameIndex := 25, descriptorIndex := 14, attributes := #[] }, { accessFlags := 25, nameIndex := 38, descriptorIndex := 14, attributes := #[] }])
  fields := #[{ name := "sequence", type := .long, accessFlags := 18, slot := 0, constantValue := 0 }, { name := "message", type := (.object "com/example/london_wall/londonwall/model/Message"), accessFlags := 18, slot := 1, constantValue := 0 }, { name := "redelivered", type := .boolean, accessFlags := 18, slot := 2, constantValue := 0 }, { name := "expires", type := .long, accessFlags := 18, slot := 3, constantValue := 0 }, { name := "NEVER", type := .long, accessFlags := 25, slot := 0, constantValue := 0 }]
  methods := #[k3m0, k3m1]
  instanceTypes := #[.long, (.object "com/example/london_wall/londonwall/model/Message"), .boolean, .long]
  staticTypes := #[.long]
  resolved := Array.replicate 78 none
  statics := none }

def pool4 : Array CpInfo := pool [(1, .class_ 2), (0, u "java/lang/Math"), (1, .class_ 6), (1, u "java/lang/Object"), (0, u "<init>"), (0, u "()V"), (89, .class_ 100), (1, u "java/lang/Math$RandomNumberGeneratorHolder"), (20, u "(JJ)J"), (50, u "negativeZeroFloatBits"), (0, u "J"), (2, u "negativeZeroDoubleBits"), (21, u "max"), (46, u "$assertionsDisabled"), (0, u "Z"), (91, u "twoToTheDoubleScaleDown"), (0, u "D"), (4, u "twoToTheDoubleScaleUp"), (9, u "E"), (3, u "PI"), (2, u "TAU"), (2, u "DEGREES_TO_RADIANS"), (0, u "RADIANS_TO_DEGREES")] 94

def k4m0 : Method := { name := "<init>", desc := "()V", sig := { parameters := [], returnType := none }, accessFlags := 2, code := none }
def k4c1 : Code := { maxStack := 4, maxLocals := 4, code := jdk_29_method_66_code, exceptionTable := #[], attributes := #[] }
def k4m1 : Method := { name := "max", desc := "(JJ)J", sig := { parameters := [.long, .long], returnType := some .long }, accessFlags := 9, code := some k4c1 }
/-- java/lang/Math -/
def k4 : Class := { plain "java/lang/Math" (some 0) with
  accessFlags := 49
  interfaces := #[]
  cf := some (fileOf pool4 1 #[.nestMembers #[98]] #[{ accessFlags := 2, nameIndex := 7, descriptorIndex := 8, attributes := #[] }, { accessFlags := 9, nameIndex := 198, descriptorIndex := 121, attributes := #[] }] 49 4 #[] #[{ accessFlags := 25, nameIndex := 354, descriptorIndex := 339, attributes := #[] }, { accessFlags := 25, nameIndex := 358, descriptorIndex := 339, attributes := #[] }, { accessFlags := 25, nameIndex := 361, descriptorIndex := 339, attributes := #[] }, { accessFlags := 26, nameIndex := 364, descriptorIndex := 339, attributes := #[] }, { accessFlags := 26, nameIndex := 365, descriptorIndex := 339, attributes := #[] }, { accessFlags := 26, nameIndex := 172, descriptorIndex := 173, attributes := #[] }, { accessFlags := 26, nameIndex := 176, descriptorIndex := 173, attributes := #[] }, { accessFlags := 8, nameIndex := 344, descriptorIndex := 339, attributes := #[] }, { accessFlags := 8, nameIndex := 338, descriptorIndex := 339, attributes := #[] }, { accessFlags := 4120, nameIndex := 245, descriptorIndex := 246, attributes := #[] }])
  fields := #[{ name := "E", type := .double, accessFlags := 25, slot := 0, constantValue := 0 }, { name := "PI", type := .double, accessFlags := 25, slot := 1, constantValue := 0 }, { name := "TAU", type := .double, accessFlags := 25, slot := 2, constantValue := 0 }, { name := "DEGREES_TO_RADIANS", type := .double, accessFlags := 26, slot := 3, constantValue := 0 }, { name := "RADIANS_TO_DEGREES", type := .double, accessFlags := 26, slot := 4, constantValue := 0 }, { name := "negativeZeroFloatBits", type := .long, accessFlags := 26, slot := 5, constantValue := 0 }, { name := "negativeZeroDoubleBits", type := .long, accessFlags := 26, slot := 6, constantValue := 0 }, { name := "twoToTheDoubleScaleUp", type := .double, accessFlags := 8, slot := 7, constantValue := 0 }, { name := "twoToTheDoubleScaleDown", type := .double, accessFlags := 8, slot := 8, constantValue := 0 }, { name := "$assertionsDisabled", type := .boolean, accessFlags := 4120, slot := 9, constantValue := 0 }]
  methods := #[k4m0, k4m1]
  instanceTypes := #[]
  staticTypes := #[.double, .double, .double, .double, .double, .long, .long, .double, .double, .boolean]
  resolved := Array.replicate 460 none
  statics := none }

def pool5 : Array CpInfo := pool [(1, u "java/lang/Cloneable"), (0, .class_ 1), (0, u "java/lang/Object"), (0, .class_ 3)] 3

/-- java/lang/Cloneable -/
def k5 : Class := { plain "java/lang/Cloneable" (some 0) with
  accessFlags := 1537
  interfaces := #[]
  cf := some (fileOf pool5 2 #[] #[] 1537 4 #[] #[])
  fields := #[]
  methods := #[]
  instanceTypes := #[]
  staticTypes := #[]
  resolved := Array.replicate 8 none
  statics := none }

def pool6 : Array CpInfo := pool [(1, u "java/io/Serializable"), (0, .class_ 1), (0, u "java/lang/Object"), (0, .class_ 3)] 3

/-- java/io/Serializable -/
def k6 : Class := { plain "java/io/Serializable" (some 0) with
  accessFlags := 1537
  interfaces := #[]
  cf := some (fileOf pool6 2 #[] #[] 1537 4 #[] #[])
  fields := #[]
  methods := #[]
  instanceTypes := #[]
  staticTypes := #[]
  resolved := Array.replicate 8 none
  statics := none }

/-- the primitive byte -/
def k7 : Class := { plain "byte" none with kind := .primitive 'B', accessFlags := 0x411 }
/-- [B -/
def k8 : Class := { plain "[B" (some 0) with kind := .array 7 .byte, interfaces := #[5, 6], accessFlags := 1041 }

/-- the primitive int -/
def k9 : Class := { plain "int" none with kind := .primitive 'I', accessFlags := 0x411 }
/-- [I -/
def k10 : Class := { plain "[I" (some 0) with kind := .array 9 .int, interfaces := #[5, 6], accessFlags := 1041 }

def heap : Heap := #[]
def classes : Array Class := #[k0, k1, k2, k3, k4, k5, k6, k7, k8, k9, k10]
def interned : List (Array UInt16 × Addr) := []
def slotsUsed : Nat := 0
def theMethod : MethodId := ⟨1, 1⟩
def args0 : Array Value := #[.long 5, .long 7, .long 9, .int 9]
def aboutOver (below : List Frame) : State where
  vm := { classes := classes, interned := interned.toArray }
  heap := heap
  slotsUsed := slotsUsed
  threads := #[{ frames := .invoking theMethod args0 :: below }]
def below0 : List Frame := [.native { method := ⟨0, 0⟩, args := #[] }]
def about1 : State := aboutOver below0
def p0 : Program := .bare "" "" ""
def e0 : Env := launch0.env 0 0 0
theorem w_frames : about1.frames = Frame.invoking theMethod args0 :: below0 := rfl
set_option maxRecDepth 65536 in
theorem w_args : argsFit about1.vm theMethod args0 = true := by decide +kernel
set_option maxRecDepth 65536 in
theorem w_heap : heapFits about1 = true := by decide +kernel
set_option maxRecDepth 65536 in
theorem w_runnable : about1.curStatus? = some .runnable := by decide +kernel
set_option maxRecDepth 65536 in
theorem w_alone : about1.alone = true := by decide +kernel
set_option maxRecDepth 65536 in
theorem w_named : about1.methodNamed? x = some theMethod := by decide +kernel
set_option maxRecDepth 65536 in
theorem w_hears : about1.hears theMethod below0 = true := by decide +kernel
set_option maxRecDepth 65536 in
theorem w_ripe : about1.ripe theMethod args0 below0 = true := by decide +kernel
theorem w_running : about1.status = .running := rfl
set_option maxRecDepth 65536 in
theorem w_room : about1.hasRoom e0.platform room_1 = true :=
  launch0.hasRoom_least _ room_1 (by decide +kernel) (by decide +kernel) (by decide +kernel) (by decide +kernel) (by decide +kernel) (by decide +kernel)
theorem allAtoms_all (ts : List Jvm.Cond) (a : Array Jvm.Value) (st : Jvm.State) : (allAtoms ts).before a st = ts.all (fun c => c.before a st) := by
  induction ts with
  | nil => rfl
  | cons c t ih =>
    show (Jvm.Cond.and c (allAtoms t)).before a st = _
    rw [Jvm.Cond.before_and, ih, List.all_cons]
def words1 : List Jvm.Cond := Jvm.Cond.code x code maxLocals ret :: tables_1
/-- a 'code' word, met by the world's own term for the bytes: nothing is compared byte by byte -/
theorem code_word {y : MethodName} {bytes : ByteArray} {mx : Nat} {rt : Option FieldType} {a : Array Value} {s : State} {m : MethodId} {meth : Method} {c : Code} (h1 : s.methodNamed? y = some m) (h2 : s.vm.method? m = some meth) (h3 : meth.code = some c) (h4 : c.code = bytes)
    (h5 : (c.maxLocals == mx && c.exceptionTable.isEmpty && decide (c.maxStack ≤ mostOperands) && decide (meth.sig.returnType = rt) && !meth.locks && decide (parseMethodDescriptor y.desc = some meth.sig)) = true) : (Jvm.Cond.code y bytes mx rt).before a s = true := by
  simp only [Bool.and_eq_true, beq_iff_eq, Bool.not_eq_true', decide_eq_true_eq] at h5
  obtain ⟨⟨⟨⟨⟨g1, g2⟩, g3⟩, g4⟩, g5⟩, g6⟩ := h5
  simp [Cond.before, Cond.holds, Cond.value, h1, h2, h3, h4, g1, g2, g3, g4, g5, g6]
def isCode : Jvm.Cond → Bool
  | .code _ _ _ _ => true
  | _ => false
theorem all_split {L : List Jvm.Cond} {P : Jvm.Cond → Bool} (h1 : L.all (fun c => isCode c || P c) = true) (h2 : ∀ c ∈ L.filter isCode, P c = true) : L.all P = true := by
  refine List.all_eq_true.mpr fun c hc => ?_
  have h := List.all_eq_true.mp h1 c hc
  rcases Bool.eq_false_or_eq_true (isCode c) with hi | hi
  · exact h2 c (List.mem_filter.mpr ⟨hc, hi⟩)
  · simpa [hi] using h
set_option maxRecDepth 65536 in
theorem w_c0 : (Jvm.Cond.code x code maxLocals ret).before args0 about1 = true := code_word (m := ⟨1, 1⟩) (meth := k1m1) (c := k1c1) (by decide +kernel) rfl rfl rfl (by decide +kernel)
set_option maxRecDepth 65536 in
theorem w_c1 : (Jvm.Cond.code ({ cls := "com/example/london_wall/londonwall/model/QueuedMessage", name := "<init>", desc := "(JLcom/example/london_wall/londonwall/model/Message;ZJ)V" } : Jvm.MethodName) prog_14_method_1_code (7 : Nat) (Option.none : Option Jvm.ClassFile.FieldType)).before args0 about1 = true := code_word (m := ⟨3, 0⟩) (meth := k3m0) (c := k3c0) (by decide +kernel) rfl rfl rfl (by decide +kernel)
set_option maxRecDepth 65536 in
theorem w_c2 : (Jvm.Cond.code ({ cls := "java/lang/Record", name := "<init>", desc := "()V" } : Jvm.MethodName) jdk_30_method_1_code (1 : Nat) (Option.none : Option Jvm.ClassFile.FieldType)).before args0 about1 = true := code_word (m := ⟨2, 0⟩) (meth := k2m0) (c := k2c0) (by decide +kernel) rfl rfl rfl (by decide +kernel)
set_option maxRecDepth 65536 in
theorem w_c3 : (Jvm.Cond.code ({ cls := "java/lang/Object", name := "<init>", desc := "()V" } : Jvm.MethodName) object_method_1_code (1 : Nat) (Option.none : Option Jvm.ClassFile.FieldType)).before args0 about1 = true := code_word (m := ⟨0, 0⟩) (meth := k0m0) (c := k0c0) (by decide +kernel) rfl rfl rfl (by decide +kernel)
set_option maxRecDepth 65536 in
theorem w_c4 : (Jvm.Cond.code ({ cls := "com/example/london_wall/londonwall/model/QueuedMessage", name := "expired", desc := "(J)Z" } : Jvm.MethodName) prog_14_method_2_code (3 : Nat) (Option.some Jvm.ClassFile.FieldType.boolean)).before args0 about1 = true := code_word (m := ⟨3, 1⟩) (meth := k3m1) (c := k3c1) (by decide +kernel) rfl rfl rfl (by decide +kernel)
set_option maxRecDepth 65536 in
theorem w_c5 : (Jvm.Cond.code ({ cls := "java/lang/Math", name := "max", desc := "(JJ)J" } : Jvm.MethodName) jdk_29_method_66_code (4 : Nat) (Option.some Jvm.ClassFile.FieldType.long)).before args0 about1 = true := code_word (m := ⟨4, 1⟩) (meth := k4m1) (c := k4c1) (by decide +kernel) rfl rfl rfl (by decide +kernel)
def codes1 : List Jvm.Cond := [Jvm.Cond.code x code maxLocals ret, Jvm.Cond.code ({ cls := "com/example/london_wall/londonwall/model/QueuedMessage", name := "<init>", desc := "(JLcom/example/london_wall/londonwall/model/Message;ZJ)V" } : Jvm.MethodName) prog_14_method_1_code (7 : Nat) (Option.none : Option Jvm.ClassFile.FieldType), Jvm.Cond.code ({ cls := "java/lang/Record", name := "<init>", desc := "()V" } : Jvm.MethodName) jdk_30_method_1_code (1 : Nat) (Option.none : Option Jvm.ClassFile.FieldType), Jvm.Cond.code ({ cls := "java/lang/Object", name := "<init>", desc := "()V" } : Jvm.MethodName) object_method_1_code (1 : Nat) (Option.none : Option Jvm.ClassFile.FieldType), Jvm.Cond.code ({ cls := "com/example/london_wall/londonwall/model/QueuedMessage", name := "expired", desc := "(J)Z" } : Jvm.MethodName) prog_14_method_2_code (3 : Nat) (Option.some Jvm.ClassFile.FieldType.boolean), Jvm.Cond.code ({ cls := "java/lang/Math", name := "max", desc := "(JJ)J" } : Jvm.MethodName) jdk_29_method_66_code (4 : Nat) (Option.some Jvm.ClassFile.FieldType.long)]
set_option maxRecDepth 65536 in
theorem codes_eq : words1.filter isCode = codes1 := rfl
theorem w_codes : ∀ c ∈ words1.filter isCode, c.before args0 about1 = true := by
  rw [codes_eq]
  intro c hc
  simp only [codes1, List.mem_cons, List.not_mem_nil, or_false] at hc
  rcases hc with rfl | rfl | rfl | rfl | rfl | rfl
  · exact w_c0
  · exact w_c1
  · exact w_c2
  · exact w_c3
  · exact w_c4
  · exact w_c5
set_option maxRecDepth 65536 in
theorem w_t1 : (words1.take 24).all (fun c => isCode c || c.before args0 about1) = true := by decide +kernel
set_option maxRecDepth 65536 in
theorem w_t2 : (words1.drop 24).all (fun c => isCode c || c.before args0 about1) = true := by decide +kernel
theorem w_tables : (allAtoms (Jvm.Cond.code x code maxLocals ret :: tables_1)).before args0 about1 = true := by
  rw [allAtoms_all]
  show words1.all (fun c => c.before args0 about1) = true
  refine all_split ?_ w_codes
  rw [← List.take_append_drop 24 words1, List.all_append, w_t1, w_t2]
  rfl
set_option maxRecDepth 65536 in
theorem w_case : (Jvm.Cond.and given_1 narrow_1).before args0 about1 = true := by decide +kernel
theorem w_applies : (headSpec (Jvm.Cond.code x code maxLocals ret :: tables_1) room_1).applies x e0.platform about1 = true :=
  (Spec.applies_iff w_frames).mpr ⟨w_running, w_runnable, w_alone, w_named, w_hears, w_ripe, w_room, w_tables⟩
theorem atStart : AtStart classFile x code maxLocals ret World_1 tables_1 room_1 Calls_1 rest_1 Pre_1 launch0 p0 e0 about1 theMethod args0 below0 :=
  ⟨lists_1, trivial, launch0.admits_env _ _ _, launch0.least_env, fairChoices_fair.cas, fairChoices_fair.clock, w_frames, w_args, w_heap, w_applies, trivial, trivial, w_case⟩
end start1
theorem witness_1 : WitnessClaimed_1 := ⟨start1.p0, start1.e0, start1.about1, start1.theMethod, start1.args0, start1.below0, start1.atStart⟩
end Jvm.Pilot.@@N@@
