import JvmDerived
import JvmDerived.Pilot.@@N@@Statement
import JvmDerived.Pilot.@@N@@Code
set_option linter.unusedVariables false
set_option linter.unusedSimpArgs false
@@BLOCK:NumsL.lean.txt@@
namespace Jvm.Pilot.@@N@@
open Jvm Jvm.ClassFile Sem Op Lib Jvm.Free Jvm.Stand Jvm.LawKit Jvm.RoadKit Bundle Jvm.Pilot.@@N@@.Jvm.D
/-! my own layer: what stands still in a walk (own_Cx, own_Mx), where it stands (own_Sx), what is left of it (own_Fin) -/
abbrev own_Cx : Type := Program × Launch × Env × Room × State × MethodId × Array Value × List Frame × Method × Code
def own_Sx (n0 : Nat) : own_Cx → State → Heap → Nat → Nat → Prop
  | (p, l, e, R, s, m, args, below, meth, c), T, h, cl, sl => ∃ locs, Stand p l e R s m args below meth c T locs cl sl ∧ Fr n0 locs ∧ T.heap = h ∧ n0 ≤ s.heap.size ∧ cl ≤ R.cells ∧ sl ≤ R.slots
def own_Mx (Z : State) (a0 : Array Value) : own_Cx → ByteArray → String → Nat → Option FieldType → Room → Prop
  | (p, l, e, R, s, m, args, below, meth, c), code, own, mx, ret, rm => p.tables.exec = Jvm.exec ∧ c.code = code ∧ c.maxLocals = mx ∧ s.vm.findClass own = some m.cls ∧ meth.sig.returnType = ret ∧ meth.locks = false ∧ Z.Warmed39 s.vm ∧ R = rm ∧ (∀ d ∈ tables_1, d.before a0 Z = true)
def own_Fin (n0 : Nat) : own_Cx → (Option Value → Heap → Prop) → State → Nat → Array Slot → List Value → Prop
  | (p, l, e, R, s, m, args, below, meth, c), P, T, pc, L, S => ∃ s₂ o, Steps p.tables e below (T.setTop (mkF m pc L S)) s₂ ∧ s₂.status = .running ∧ Ended s₂ below o ∧ ∃ v L', o = .returned v ∧ (P v s₂.heap ∧ Fr n0 L') ∧ FrameEnd s o s₂ L' R.cells R.slots
/-- a method's contract: from these arguments and this heap it returns, and P says what and with which heap -/
def own_Met (l : Launch) (Z : State) (n0 : Nat) (y : MethodName) (code : ByteArray) (mx : Nat) (ret : Option FieldType) (rm : Room) (args : Array Value) (h0 : Heap) (P : Option Value → Heap → Prop) : Prop :=
  ∀ ws : List Jvm.Cond, MetFree l y (head1 (Jvm.Cond.code y code mx ret :: ws) rm) (fun a U => a = args ∧ Z.Warmed39 U.vm ∧ U.heap = h0) (fun _ _ _ _ _ => True) (fun _ U o U' => ∃ v L, o = .returned v ∧ (P v U'.heap ∧ Fr n0 L) ∧ FrameEnd U o U' L rm.cells rm.slots)
section OwnLayer
variable {Z : State} {a0 : Array Value} {n0 : Nat} {K : own_Cx} {code : ByteArray} {own : String} {mx : Nat} {ret : Option FieldType} {rm : Room} {P : Option Value → Heap → Prop} {T : State} {h : Heap} {cl sl pc pc' : Nat} {L L' : Array Slot} {S rest : List Value}
theorem own_enter {l : Launch} {y : MethodName} {args : Array Value} {h0 : Heap} (hpl : plainFor y = true) (hw : ∀ d ∈ tables_1, d.before a0 Z = true) (hn : n0 ≤ h0.size) (he : ∀ m, entryFrame m args mx = mkF m 0 L [])
    (body : ∀ (K : own_Cx) (T : State), K.2.2.2.2.2.2.2.2.1.name = y.name → own_Mx Z a0 K code y.cls mx ret rm → own_Sx n0 K T h0 0 0 → own_Fin n0 K P T 0 L []) : own_Met l Z n0 y code mx ret rm args h0 P := by
  intro ws
  refine MetFree.of_bodySF hpl hisR ?_
  intro p e s m args' below meth c s₁ Bd hml0 hP hK
  obtain ⟨rfl, hZ, hh⟩ := hP
  have hown : s.vm.findClass y.cls = some m.cls := findClass_of_methodNamed Bd.named
  have X0 : Stand p l e rm s m args' below meth c s₁ [] 0 0 := Stand.of_body Bd
  have e0 : s₁.heap = h0 := by rw [← hh, Bd.state]; rfl
  obtain ⟨s2, o, st, r⟩ := body (p, l, e, rm, s, m, args', below, meth, c) s₁ (name_of_methodNamed Bd.named Bd.method).1 ⟨Bd.exec, Bd.bytes, hml0, hown, Bd.returns, Bd.notSynchronized, hZ, rfl, hw⟩ ⟨[], X0, Fr.nil n0, e0, by rw [hh]; exact hn, Nat.zero_le _, Nat.zero_le _⟩
  exact ⟨s2, o, castTop (he m) st, r⟩
theorem own_Sx.size (X : own_Sx n0 K T h cl sl) : n0 ≤ h.size := by
  obtain ⟨p, l, e, R, s, m, args, below, meth, c⟩ := K
  obtain ⟨locs, X, -, rfl, hn, -⟩ := X
  exact Nat.le_trans hn X.same.2.1
theorem own_ret {t : FieldType} (M : own_Mx Z a0 K code own mx (some t) rm) (X : own_Sx n0 K T h cl sl) {w w' : Value} {i : Instr} (hd : decode code pc = .ok (i, 1))
    (hst : ∀ {p : Program} {l : Launch} {e : Env} {R : Room} {s : State} {m : MethodId} {args : Array Value} {below : List Frame} {meth : Method} {c : Code} {locs : List Loc} {fs : List Frame}, Stand p l e R s m args below meth c T locs cl sl → p.tables.exec = Jvm.exec → meth.sig.returnType = some t → decode c.code pc = .ok (i, 1) → (∀ (f : JFrame) (acts : List Action), f.method = m → f.locked = none → f.entered = [] → (doReturn e (T.setTop f) acts (some w')).1 = T.setFrames fs) → Steps p.tables e below (T.setTop (mkF m pc L (w :: S))) (T.setFrames fs)) (hP : P (some w') h) : own_Fin n0 K P T pc L (w :: S) := by
  obtain ⟨p, l, e, R, s, m, args, below, meth, c⟩ := K
  obtain ⟨hx, hby, hml, hown, hret, hlk, hZ, rfl, hw⟩ := M
  obtain ⟨locs, X, hN, rfl, hn, hc, hs⟩ := X
  obtain ⟨fs, hr, hrun, hended, hW, hsame⟩ := X.leave (v := some w') (fun q => by rw [hret] at q; cases q) hlk
  exact ⟨_, _, hst X hx hret (hb hby hd) hr, hrun, hended, _, _, rfl, ⟨hP, hN⟩, ⟨_, rfl⟩, hW, hsame.mono hc hs⟩
theorem own_retI (M : own_Mx Z a0 K code own mx (some .int) rm) (X : own_Sx n0 K T h cl sl) {z : Int32} (hd : decode code pc = .ok (.ireturn, 1)) (hP : P (some (.int z)) h) : own_Fin n0 K P T pc L (.int z :: S) :=
  own_ret M X hd (fun X hx hret hd hr => retOut X hx hret rfl (Or.inl ⟨rfl, Or.inl rfl, z, rfl⟩) hd hr) hP
theorem own_retJ (M : own_Mx Z a0 K code own mx (some .long) rm) (X : own_Sx n0 K T h cl sl) {z : Int64} (hd : decode code pc = .ok (.lreturn, 1)) (hP : P (some (.long z)) h) : own_Fin n0 K P T pc L (.long z :: S) :=
  own_ret M X hd (fun X hx hret hd hr => retOut X hx hret rfl (Or.inr (Or.inl ⟨rfl, rfl, z, rfl⟩)) hd hr) hP
theorem own_retA {t : FieldType} (M : own_Mx Z a0 K code own mx (some t) rm) (X : own_Sx n0 K T h cl sl) {a : Addr} (ht : t.isReference = true) (hna : narrow t (.ref a) = .ref a) (hd : decode code pc = .ok (.areturn, 1)) (hP : P (some (.ref a)) h) : own_Fin n0 K P T pc L (.ref a :: S) :=
  own_ret M X hd (fun X hx hret hd hr => retOut X hx hret hna (Or.inr (Or.inr (Or.inr (Or.inr ⟨rfl, ht, rfl⟩)))) hd hr) hP
theorem own_retN {t : FieldType} (M : own_Mx Z a0 K code own mx (some t) rm) (X : own_Sx n0 K T h cl sl) {z z' : Int32} (ht : t = .boolean ∨ t = .byte ∨ t = .char ∨ t = .short) (hd : decode code pc = .ok (.ireturn, 1)) (hz : nar t z = z') (hP : P (some (.int z')) h) : own_Fin n0 K P T pc L (.int z :: S) :=
  own_ret M X hd (fun X hx hret hd hr => retN X hx hret ht hd (by rw [hz]; exact hr)) hP
theorem own_retV (M : own_Mx Z a0 K code own mx none rm) (X : own_Sx n0 K T h cl sl) (hd : decode code pc = .ok (.return_, 1)) (hP : P none h) : own_Fin n0 K P T pc L [] := by
  obtain ⟨p, l, e, R, s, m, args, below, meth, c⟩ := K
  obtain ⟨hx, hby, hml, hown, hret, hlk, hZ, rfl, hw⟩ := M
  obtain ⟨locs, X, hN, rfl, hn, hc, hs⟩ := X
  obtain ⟨fs, hr, hrun, hended, hW, hsame⟩ := X.leave (v := none) (fun _ => rfl) hlk
  exact ⟨_, _, X.returnOut hx hret (hb hby hd) hr, hrun, hended, _, _, rfl, ⟨hP, hN⟩, ⟨_, rfl⟩, hW, hsame.mono hc hs⟩
theorem own_iload (M : own_Mx Z a0 K code own mx ret rm) (X : own_Sx n0 K T h cl sl) {k : Nat} {v : Int32} (hd : decode code pc = .ok (.iload k, 2)) (hl : L[k]? = some (.val (.int v))) (hp : pc + 2 = pc') (hr : own_Fin n0 K P T pc' L (.int v :: S)) : own_Fin n0 K P T pc L (S) := by
  obtain ⟨p, l, e, R, s, m, args, below, meth, c⟩ := K
  obtain ⟨hx, hby, hml, hown, hret, hlk, hZ, rfl, hw⟩ := M
  obtain ⟨locs, X, hN, eT, hn, hcl, hsl⟩ := X
  obtain ⟨s2, o2, st, r⟩ := hr
  subst hp
  exact ⟨s2, o2, XS.iload X.here hx rfl (hb hby hd) hl st, r⟩
theorem own_iloadN (M : own_Mx Z a0 K code own mx ret rm) (X : own_Sx n0 K T h cl sl) {k : Fin 4} {v : Int32} (hd : decode code pc = .ok (.iload_n k, 1)) (hl : L[k.val]? = some (.val (.int v))) (hp : pc + 1 = pc') (hr : own_Fin n0 K P T pc' L (.int v :: S)) : own_Fin n0 K P T pc L (S) := by
  obtain ⟨p, l, e, R, s, m, args, below, meth, c⟩ := K
  obtain ⟨hx, hby, hml, hown, hret, hlk, hZ, rfl, hw⟩ := M
  obtain ⟨locs, X, hN, eT, hn, hcl, hsl⟩ := X
  obtain ⟨s2, o2, st, r⟩ := hr
  subst hp
  exact ⟨s2, o2, XS.iloadN X.here hx rfl (hb hby hd) hl st, r⟩
theorem own_istore (M : own_Mx Z a0 K code own mx ret rm) (X : own_Sx n0 K T h cl sl) {k : Nat} {v : Int32} (hd : decode code pc = .ok (.istore k, 2)) (hl : storeLocals L k (.int v) = some L') (hp : pc + 2 = pc') (hr : own_Fin n0 K P T pc' L' (S)) : own_Fin n0 K P T pc L (.int v :: S) := by
  obtain ⟨p, l, e, R, s, m, args, below, meth, c⟩ := K
  obtain ⟨hx, hby, hml, hown, hret, hlk, hZ, rfl, hw⟩ := M
  obtain ⟨locs, X, hN, eT, hn, hcl, hsl⟩ := X
  obtain ⟨s2, o2, st, r⟩ := hr
  subst hp
  exact ⟨s2, o2, XS.istore X.here hx rfl (hb hby hd) rfl hl st, r⟩
theorem own_istoreN (M : own_Mx Z a0 K code own mx ret rm) (X : own_Sx n0 K T h cl sl) {k : Fin 4} {v : Int32} (hd : decode code pc = .ok (.istore_n k, 1)) (hl : storeLocals L k.val (.int v) = some L') (hp : pc + 1 = pc') (hr : own_Fin n0 K P T pc' L' (S)) : own_Fin n0 K P T pc L (.int v :: S) := by
  obtain ⟨p, l, e, R, s, m, args, below, meth, c⟩ := K
  obtain ⟨hx, hby, hml, hown, hret, hlk, hZ, rfl, hw⟩ := M
  obtain ⟨locs, X, hN, eT, hn, hcl, hsl⟩ := X
  obtain ⟨s2, o2, st, r⟩ := hr
  subst hp
  exact ⟨s2, o2, XS.istoreN X.here hx rfl (hb hby hd) rfl hl st, r⟩
theorem own_lload (M : own_Mx Z a0 K code own mx ret rm) (X : own_Sx n0 K T h cl sl) {k : Nat} {v : Int64} (hd : decode code pc = .ok (.lload k, 2)) (hl : L[k]? = some (.val (.long v))) (hp : pc + 2 = pc') (hr : own_Fin n0 K P T pc' L (.long v :: S)) : own_Fin n0 K P T pc L (S) := by
  obtain ⟨p, l, e, R, s, m, args, below, meth, c⟩ := K
  obtain ⟨hx, hby, hml, hown, hret, hlk, hZ, rfl, hw⟩ := M
  obtain ⟨locs, X, hN, eT, hn, hcl, hsl⟩ := X
  obtain ⟨s2, o2, st, r⟩ := hr
  subst hp
  exact ⟨s2, o2, XS.lload X.here hx rfl (hb hby hd) hl st, r⟩
theorem own_lloadN (M : own_Mx Z a0 K code own mx ret rm) (X : own_Sx n0 K T h cl sl) {k : Fin 4} {v : Int64} (hd : decode code pc = .ok (.lload_n k, 1)) (hl : L[k.val]? = some (.val (.long v))) (hp : pc + 1 = pc') (hr : own_Fin n0 K P T pc' L (.long v :: S)) : own_Fin n0 K P T pc L (S) := by
  obtain ⟨p, l, e, R, s, m, args, below, meth, c⟩ := K
  obtain ⟨hx, hby, hml, hown, hret, hlk, hZ, rfl, hw⟩ := M
  obtain ⟨locs, X, hN, eT, hn, hcl, hsl⟩ := X
  obtain ⟨s2, o2, st, r⟩ := hr
  subst hp
  exact ⟨s2, o2, XS.lloadN X.here hx rfl (hb hby hd) hl st, r⟩
theorem own_lstore (M : own_Mx Z a0 K code own mx ret rm) (X : own_Sx n0 K T h cl sl) {k : Nat} {v : Int64} (hd : decode code pc = .ok (.lstore k, 2)) (hl : storeLocals L k (.long v) = some L') (hp : pc + 2 = pc') (hr : own_Fin n0 K P T pc' L' (S)) : own_Fin n0 K P T pc L (.long v :: S) := by
  obtain ⟨p, l, e, R, s, m, args, below, meth, c⟩ := K
  obtain ⟨hx, hby, hml, hown, hret, hlk, hZ, rfl, hw⟩ := M
  obtain ⟨locs, X, hN, eT, hn, hcl, hsl⟩ := X
  obtain ⟨s2, o2, st, r⟩ := hr
  subst hp
  exact ⟨s2, o2, XS.lstore X.here hx rfl (hb hby hd) rfl hl st, r⟩
theorem own_lstoreN (M : own_Mx Z a0 K code own mx ret rm) (X : own_Sx n0 K T h cl sl) {k : Fin 4} {v : Int64} (hd : decode code pc = .ok (.lstore_n k, 1)) (hl : storeLocals L k.val (.long v) = some L') (hp : pc + 1 = pc') (hr : own_Fin n0 K P T pc' L' (S)) : own_Fin n0 K P T pc L (.long v :: S) := by
  obtain ⟨p, l, e, R, s, m, args, below, meth, c⟩ := K
  obtain ⟨hx, hby, hml, hown, hret, hlk, hZ, rfl, hw⟩ := M
  obtain ⟨locs, X, hN, eT, hn, hcl, hsl⟩ := X
  obtain ⟨s2, o2, st, r⟩ := hr
  subst hp
  exact ⟨s2, o2, XS.lstoreN X.here hx rfl (hb hby hd) rfl hl st, r⟩
theorem own_aload (M : own_Mx Z a0 K code own mx ret rm) (X : own_Sx n0 K T h cl sl) {k : Nat} {v : Value} (hd : decode code pc = .ok (.aload k, 2)) (hl : L[k]? = some (.val v)) (hv : v.isRef = true) (hp : pc + 2 = pc') (hr : own_Fin n0 K P T pc' L (v :: S)) : own_Fin n0 K P T pc L (S) := by
  obtain ⟨p, l, e, R, s, m, args, below, meth, c⟩ := K
  obtain ⟨hx, hby, hml, hown, hret, hlk, hZ, rfl, hw⟩ := M
  obtain ⟨locs, X, hN, eT, hn, hcl, hsl⟩ := X
  obtain ⟨s2, o2, st, r⟩ := hr
  subst hp
  exact ⟨s2, o2, XS.aload X.here hx rfl (hb hby hd) hl hv st, r⟩
theorem own_aloadN (M : own_Mx Z a0 K code own mx ret rm) (X : own_Sx n0 K T h cl sl) {k : Fin 4} {v : Value} (hd : decode code pc = .ok (.aload_n k, 1)) (hl : L[k.val]? = some (.val v)) (hv : v.isRef = true) (hp : pc + 1 = pc') (hr : own_Fin n0 K P T pc' L (v :: S)) : own_Fin n0 K P T pc L (S) := by
  obtain ⟨p, l, e, R, s, m, args, below, meth, c⟩ := K
  obtain ⟨hx, hby, hml, hown, hret, hlk, hZ, rfl, hw⟩ := M
  obtain ⟨locs, X, hN, eT, hn, hcl, hsl⟩ := X
  obtain ⟨s2, o2, st, r⟩ := hr
  subst hp
  exact ⟨s2, o2, XS.aloadN X.here hx rfl (hb hby hd) hl hv st, r⟩
theorem own_astore (M : own_Mx Z a0 K code own mx ret rm) (X : own_Sx n0 K T h cl sl) {k : Nat} {v : Value} (hd : decode code pc = .ok (.astore k, 2)) (hv : v.isRef = true) (hl : storeLocals L k v = some L') (hp : pc + 2 = pc') (hr : own_Fin n0 K P T pc' L' (S)) : own_Fin n0 K P T pc L (v :: S) := by
  obtain ⟨p, l, e, R, s, m, args, below, meth, c⟩ := K
  obtain ⟨hx, hby, hml, hown, hret, hlk, hZ, rfl, hw⟩ := M
  obtain ⟨locs, X, hN, eT, hn, hcl, hsl⟩ := X
  obtain ⟨s2, o2, st, r⟩ := hr
  subst hp
  exact ⟨s2, o2, XS.astore X.here hx rfl (hb hby hd) rfl hv hl st, r⟩
theorem own_astoreN (M : own_Mx Z a0 K code own mx ret rm) (X : own_Sx n0 K T h cl sl) {k : Fin 4} {v : Value} (hd : decode code pc = .ok (.astore_n k, 1)) (hv : v.isRef = true) (hl : storeLocals L k.val v = some L') (hp : pc + 1 = pc') (hr : own_Fin n0 K P T pc' L' (S)) : own_Fin n0 K P T pc L (v :: S) := by
  obtain ⟨p, l, e, R, s, m, args, below, meth, c⟩ := K
  obtain ⟨hx, hby, hml, hown, hret, hlk, hZ, rfl, hw⟩ := M
  obtain ⟨locs, X, hN, eT, hn, hcl, hsl⟩ := X
  obtain ⟨s2, o2, st, r⟩ := hr
  subst hp
  exact ⟨s2, o2, XS.astoreN X.here hx rfl (hb hby hd) rfl hv hl st, r⟩
theorem own_iconst (M : own_Mx Z a0 K code own mx ret rm) (X : own_Sx n0 K T h cl sl) {i : Int} {v : Int32} (hd : decode code pc = .ok (.iconst i, 1)) (hv : Int32.ofInt i = v) (hp : pc + 1 = pc') (hr : own_Fin n0 K P T pc' L (.int v :: S)) : own_Fin n0 K P T pc L (S) := by
  obtain ⟨p, l, e, R, s, m, args, below, meth, c⟩ := K
  obtain ⟨hx, hby, hml, hown, hret, hlk, hZ, rfl, hw⟩ := M
  obtain ⟨locs, X, hN, eT, hn, hcl, hsl⟩ := X
  obtain ⟨s2, o2, st, r⟩ := hr
  subst hp
  subst hv
  exact ⟨s2, o2, XS.iconst X.here hx rfl (hb hby hd) st, r⟩
theorem own_bipush (M : own_Mx Z a0 K code own mx ret rm) (X : own_Sx n0 K T h cl sl) {i : Int} {v : Int32} (hd : decode code pc = .ok (.bipush i, 2)) (hv : (Int8.ofInt i).toInt32 = v) (hp : pc + 2 = pc') (hr : own_Fin n0 K P T pc' L (.int v :: S)) : own_Fin n0 K P T pc L (S) := by
  obtain ⟨p, l, e, R, s, m, args, below, meth, c⟩ := K
  obtain ⟨hx, hby, hml, hown, hret, hlk, hZ, rfl, hw⟩ := M
  obtain ⟨locs, X, hN, eT, hn, hcl, hsl⟩ := X
  obtain ⟨s2, o2, st, r⟩ := hr
  subst hp
  subst hv
  exact ⟨s2, o2, XS.bipush X.here hx rfl (hb hby hd) st, r⟩
theorem own_sipush (M : own_Mx Z a0 K code own mx ret rm) (X : own_Sx n0 K T h cl sl) {i : Int} {v : Int32} (hd : decode code pc = .ok (.sipush i, 3)) (hv : (Int16.ofInt i).toInt32 = v) (hp : pc + 3 = pc') (hr : own_Fin n0 K P T pc' L (.int v :: S)) : own_Fin n0 K P T pc L (S) := by
  obtain ⟨p, l, e, R, s, m, args, below, meth, c⟩ := K
  obtain ⟨hx, hby, hml, hown, hret, hlk, hZ, rfl, hw⟩ := M
  obtain ⟨locs, X, hN, eT, hn, hcl, hsl⟩ := X
  obtain ⟨s2, o2, st, r⟩ := hr
  subst hp
  subst hv
  exact ⟨s2, o2, XS.sipush X.here hx rfl (hb hby hd) st, r⟩
theorem own_lconst (M : own_Mx Z a0 K code own mx ret rm) (X : own_Sx n0 K T h cl sl) {i : Fin 2} {v : Int64} (hd : decode code pc = .ok (.lconst i, 1)) (hv : Int64.ofNat i = v) (hp : pc + 1 = pc') (hr : own_Fin n0 K P T pc' L (.long v :: S)) : own_Fin n0 K P T pc L (S) := by
  obtain ⟨p, l, e, R, s, m, args, below, meth, c⟩ := K
  obtain ⟨hx, hby, hml, hown, hret, hlk, hZ, rfl, hw⟩ := M
  obtain ⟨locs, X, hN, eT, hn, hcl, hsl⟩ := X
  obtain ⟨s2, o2, st, r⟩ := hr
  subst hp
  subst hv
  exact ⟨s2, o2, XS.lconst X.here hx rfl (hb hby hd) st, r⟩
theorem own_aconst_null (M : own_Mx Z a0 K code own mx ret rm) (X : own_Sx n0 K T h cl sl)  (hd : decode code pc = .ok (.aconst_null, 1)) (hp : pc + 1 = pc') (hr : own_Fin n0 K P T pc' L (.null :: S)) : own_Fin n0 K P T pc L (S) := by
  obtain ⟨p, l, e, R, s, m, args, below, meth, c⟩ := K
  obtain ⟨hx, hby, hml, hown, hret, hlk, hZ, rfl, hw⟩ := M
  obtain ⟨locs, X, hN, eT, hn, hcl, hsl⟩ := X
  obtain ⟨s2, o2, st, r⟩ := hr
  subst hp
  exact ⟨s2, o2, XS.aconstNull X.here hx rfl (hb hby hd) st, r⟩
theorem own_iadd (M : own_Mx Z a0 K code own mx ret rm) (X : own_Sx n0 K T h cl sl) {x y : Int32} (hd : decode code pc = .ok (.iadd, 1)) (hp : pc + 1 = pc') (hr : own_Fin n0 K P T pc' L (.int (x + y) :: S)) : own_Fin n0 K P T pc L (.int y :: .int x :: S) := by
  obtain ⟨p, l, e, R, s, m, args, below, meth, c⟩ := K
  obtain ⟨hx, hby, hml, hown, hret, hlk, hZ, rfl, hw⟩ := M
  obtain ⟨locs, X, hN, eT, hn, hcl, hsl⟩ := X
  obtain ⟨s2, o2, st, r⟩ := hr
  subst hp
  exact ⟨s2, o2, XS.iadd X.here hx rfl (hb hby hd) rfl st, r⟩
theorem own_ladd (M : own_Mx Z a0 K code own mx ret rm) (X : own_Sx n0 K T h cl sl) {x y : Int64} (hd : decode code pc = .ok (.ladd, 1)) (hp : pc + 1 = pc') (hr : own_Fin n0 K P T pc' L (.long (x + y) :: S)) : own_Fin n0 K P T pc L (.long y :: .long x :: S) := by
  obtain ⟨p, l, e, R, s, m, args, below, meth, c⟩ := K
  obtain ⟨hx, hby, hml, hown, hret, hlk, hZ, rfl, hw⟩ := M
  obtain ⟨locs, X, hN, eT, hn, hcl, hsl⟩ := X
  obtain ⟨s2, o2, st, r⟩ := hr
  subst hp
  exact ⟨s2, o2, XS.ladd X.here hx rfl (hb hby hd) rfl st, r⟩
theorem own_isub (M : own_Mx Z a0 K code own mx ret rm) (X : own_Sx n0 K T h cl sl) {x y : Int32} (hd : decode code pc = .ok (.isub, 1)) (hp : pc + 1 = pc') (hr : own_Fin n0 K P T pc' L (.int (x - y) :: S)) : own_Fin n0 K P T pc L (.int y :: .int x :: S) := by
  obtain ⟨p, l, e, R, s, m, args, below, meth, c⟩ := K
  obtain ⟨hx, hby, hml, hown, hret, hlk, hZ, rfl, hw⟩ := M
  obtain ⟨locs, X, hN, eT, hn, hcl, hsl⟩ := X
  obtain ⟨s2, o2, st, r⟩ := hr
  subst hp
  exact ⟨s2, o2, XS.isub X.here hx rfl (hb hby hd) rfl st, r⟩
theorem own_lsub (M : own_Mx Z a0 K code own mx ret rm) (X : own_Sx n0 K T h cl sl) {x y : Int64} (hd : decode code pc = .ok (.lsub, 1)) (hp : pc + 1 = pc') (hr : own_Fin n0 K P T pc' L (.long (x - y) :: S)) : own_Fin n0 K P T pc L (.long y :: .long x :: S) := by
  obtain ⟨p, l, e, R, s, m, args, below, meth, c⟩ := K
  obtain ⟨hx, hby, hml, hown, hret, hlk, hZ, rfl, hw⟩ := M
  obtain ⟨locs, X, hN, eT, hn, hcl, hsl⟩ := X
  obtain ⟨s2, o2, st, r⟩ := hr
  subst hp
  exact ⟨s2, o2, XS.lsub X.here hx rfl (hb hby hd) rfl st, r⟩
theorem own_imul (M : own_Mx Z a0 K code own mx ret rm) (X : own_Sx n0 K T h cl sl) {x y : Int32} (hd : decode code pc = .ok (.imul, 1)) (hp : pc + 1 = pc') (hr : own_Fin n0 K P T pc' L (.int (x * y) :: S)) : own_Fin n0 K P T pc L (.int y :: .int x :: S) := by
  obtain ⟨p, l, e, R, s, m, args, below, meth, c⟩ := K
  obtain ⟨hx, hby, hml, hown, hret, hlk, hZ, rfl, hw⟩ := M
  obtain ⟨locs, X, hN, eT, hn, hcl, hsl⟩ := X
  obtain ⟨s2, o2, st, r⟩ := hr
  subst hp
  exact ⟨s2, o2, XS.imul X.here hx rfl (hb hby hd) rfl st, r⟩
theorem own_lmul (M : own_Mx Z a0 K code own mx ret rm) (X : own_Sx n0 K T h cl sl) {x y : Int64} (hd : decode code pc = .ok (.lmul, 1)) (hp : pc + 1 = pc') (hr : own_Fin n0 K P T pc' L (.long (x * y) :: S)) : own_Fin n0 K P T pc L (.long y :: .long x :: S) := by
  obtain ⟨p, l, e, R, s, m, args, below, meth, c⟩ := K
  obtain ⟨hx, hby, hml, hown, hret, hlk, hZ, rfl, hw⟩ := M
  obtain ⟨locs, X, hN, eT, hn, hcl, hsl⟩ := X
  obtain ⟨s2, o2, st, r⟩ := hr
  subst hp
  exact ⟨s2, o2, XS.lmul X.here hx rfl (hb hby hd) rfl st, r⟩
theorem own_iand (M : own_Mx Z a0 K code own mx ret rm) (X : own_Sx n0 K T h cl sl) {x y : Int32} (hd : decode code pc = .ok (.iand, 1)) (hp : pc + 1 = pc') (hr : own_Fin n0 K P T pc' L (.int (x &&& y) :: S)) : own_Fin n0 K P T pc L (.int y :: .int x :: S) := by
  obtain ⟨p, l, e, R, s, m, args, below, meth, c⟩ := K
  obtain ⟨hx, hby, hml, hown, hret, hlk, hZ, rfl, hw⟩ := M
  obtain ⟨locs, X, hN, eT, hn, hcl, hsl⟩ := X
  obtain ⟨s2, o2, st, r⟩ := hr
  subst hp
  exact ⟨s2, o2, XS.iand X.here hx rfl (hb hby hd) rfl st, r⟩
theorem own_land (M : own_Mx Z a0 K code own mx ret rm) (X : own_Sx n0 K T h cl sl) {x y : Int64} (hd : decode code pc = .ok (.land, 1)) (hp : pc + 1 = pc') (hr : own_Fin n0 K P T pc' L (.long (x &&& y) :: S)) : own_Fin n0 K P T pc L (.long y :: .long x :: S) := by
  obtain ⟨p, l, e, R, s, m, args, below, meth, c⟩ := K
  obtain ⟨hx, hby, hml, hown, hret, hlk, hZ, rfl, hw⟩ := M
  obtain ⟨locs, X, hN, eT, hn, hcl, hsl⟩ := X
  obtain ⟨s2, o2, st, r⟩ := hr
  subst hp
  exact ⟨s2, o2, XS.land X.here hx rfl (hb hby hd) rfl st, r⟩
theorem own_ior (M : own_Mx Z a0 K code own mx ret rm) (X : own_Sx n0 K T h cl sl) {x y : Int32} (hd : decode code pc = .ok (.ior, 1)) (hp : pc + 1 = pc') (hr : own_Fin n0 K P T pc' L (.int (x ||| y) :: S)) : own_Fin n0 K P T pc L (.int y :: .int x :: S) := by
  obtain ⟨p, l, e, R, s, m, args, below, meth, c⟩ := K
  obtain ⟨hx, hby, hml, hown, hret, hlk, hZ, rfl, hw⟩ := M
  obtain ⟨locs, X, hN, eT, hn, hcl, hsl⟩ := X
  obtain ⟨s2, o2, st, r⟩ := hr
  subst hp
  exact ⟨s2, o2, XS.ior X.here hx rfl (hb hby hd) rfl st, r⟩
theorem own_lor (M : own_Mx Z a0 K code own mx ret rm) (X : own_Sx n0 K T h cl sl) {x y : Int64} (hd : decode code pc = .ok (.lor, 1)) (hp : pc + 1 = pc') (hr : own_Fin n0 K P T pc' L (.long (x ||| y) :: S)) : own_Fin n0 K P T pc L (.long y :: .long x :: S) := by
  obtain ⟨p, l, e, R, s, m, args, below, meth, c⟩ := K
  obtain ⟨hx, hby, hml, hown, hret, hlk, hZ, rfl, hw⟩ := M
  obtain ⟨locs, X, hN, eT, hn, hcl, hsl⟩ := X
  obtain ⟨s2, o2, st, r⟩ := hr
  subst hp
  exact ⟨s2, o2, XS.lor X.here hx rfl (hb hby hd) rfl st, r⟩
theorem own_ixor (M : own_Mx Z a0 K code own mx ret rm) (X : own_Sx n0 K T h cl sl) {x y : Int32} (hd : decode code pc = .ok (.ixor, 1)) (hp : pc + 1 = pc') (hr : own_Fin n0 K P T pc' L (.int (x ^^^ y) :: S)) : own_Fin n0 K P T pc L (.int y :: .int x :: S) := by
  obtain ⟨p, l, e, R, s, m, args, below, meth, c⟩ := K
  obtain ⟨hx, hby, hml, hown, hret, hlk, hZ, rfl, hw⟩ := M
  obtain ⟨locs, X, hN, eT, hn, hcl, hsl⟩ := X
  obtain ⟨s2, o2, st, r⟩ := hr
  subst hp
  exact ⟨s2, o2, XS.ixor X.here hx rfl (hb hby hd) rfl st, r⟩
theorem own_lxor (M : own_Mx Z a0 K code own mx ret rm) (X : own_Sx n0 K T h cl sl) {x y : Int64} (hd : decode code pc = .ok (.lxor, 1)) (hp : pc + 1 = pc') (hr : own_Fin n0 K P T pc' L (.long (x ^^^ y) :: S)) : own_Fin n0 K P T pc L (.long y :: .long x :: S) := by
  obtain ⟨p, l, e, R, s, m, args, below, meth, c⟩ := K
  obtain ⟨hx, hby, hml, hown, hret, hlk, hZ, rfl, hw⟩ := M
  obtain ⟨locs, X, hN, eT, hn, hcl, hsl⟩ := X
  obtain ⟨s2, o2, st, r⟩ := hr
  subst hp
  exact ⟨s2, o2, XS.lxor X.here hx rfl (hb hby hd) rfl st, r⟩
theorem own_ishl (M : own_Mx Z a0 K code own mx ret rm) (X : own_Sx n0 K T h cl sl) {x y : Int32} (hd : decode code pc = .ok (.ishl, 1)) (hp : pc + 1 = pc') (hr : own_Fin n0 K P T pc' L (.int (x <<< (y &&& 31)) :: S)) : own_Fin n0 K P T pc L (.int y :: .int x :: S) := by
  obtain ⟨p, l, e, R, s, m, args, below, meth, c⟩ := K
  obtain ⟨hx, hby, hml, hown, hret, hlk, hZ, rfl, hw⟩ := M
  obtain ⟨locs, X, hN, eT, hn, hcl, hsl⟩ := X
  obtain ⟨s2, o2, st, r⟩ := hr
  subst hp
  exact ⟨s2, o2, XS.ishl X.here hx rfl (hb hby hd) rfl st, r⟩
theorem own_ishr (M : own_Mx Z a0 K code own mx ret rm) (X : own_Sx n0 K T h cl sl) {x y : Int32} (hd : decode code pc = .ok (.ishr, 1)) (hp : pc + 1 = pc') (hr : own_Fin n0 K P T pc' L (.int (x >>> (y &&& 31)) :: S)) : own_Fin n0 K P T pc L (.int y :: .int x :: S) := by
  obtain ⟨p, l, e, R, s, m, args, below, meth, c⟩ := K
  obtain ⟨hx, hby, hml, hown, hret, hlk, hZ, rfl, hw⟩ := M
  obtain ⟨locs, X, hN, eT, hn, hcl, hsl⟩ := X
  obtain ⟨s2, o2, st, r⟩ := hr
  subst hp
  exact ⟨s2, o2, XS.ishr X.here hx rfl (hb hby hd) rfl st, r⟩
theorem own_iushr (M : own_Mx Z a0 K code own mx ret rm) (X : own_Sx n0 K T h cl sl) {x y : Int32} (hd : decode code pc = .ok (.iushr, 1)) (hp : pc + 1 = pc') (hr : own_Fin n0 K P T pc' L (.int ((x.toUInt32 >>> (y &&& 31).toUInt32).toInt32) :: S)) : own_Fin n0 K P T pc L (.int y :: .int x :: S) := by
  obtain ⟨p, l, e, R, s, m, args, below, meth, c⟩ := K
  obtain ⟨hx, hby, hml, hown, hret, hlk, hZ, rfl, hw⟩ := M
  obtain ⟨locs, X, hN, eT, hn, hcl, hsl⟩ := X
  obtain ⟨s2, o2, st, r⟩ := hr
  subst hp
  exact ⟨s2, o2, XS.iushr X.here hx rfl (hb hby hd) rfl st, r⟩
theorem own_lshl (M : own_Mx Z a0 K code own mx ret rm) (X : own_Sx n0 K T h cl sl) {x : Int64} {y : Int32} (hd : decode code pc = .ok (.lshl, 1)) (hp : pc + 1 = pc') (hr : own_Fin n0 K P T pc' L (.long (x <<< (y &&& 0x3f).toInt64) :: S)) : own_Fin n0 K P T pc L (.int y :: .long x :: S) := by
  obtain ⟨p, l, e, R, s, m, args, below, meth, c⟩ := K
  obtain ⟨hx, hby, hml, hown, hret, hlk, hZ, rfl, hw⟩ := M
  obtain ⟨locs, X, hN, eT, hn, hcl, hsl⟩ := X
  obtain ⟨s2, o2, st, r⟩ := hr
  subst hp
  exact ⟨s2, o2, XS.lshl X.here hx rfl (hb hby hd) rfl st, r⟩
theorem own_lshr (M : own_Mx Z a0 K code own mx ret rm) (X : own_Sx n0 K T h cl sl) {x : Int64} {y : Int32} (hd : decode code pc = .ok (.lshr, 1)) (hp : pc + 1 = pc') (hr : own_Fin n0 K P T pc' L (.long (x >>> (y &&& 0x3f).toInt64) :: S)) : own_Fin n0 K P T pc L (.int y :: .long x :: S) := by
  obtain ⟨p, l, e, R, s, m, args, below, meth, c⟩ := K
  obtain ⟨hx, hby, hml, hown, hret, hlk, hZ, rfl, hw⟩ := M
  obtain ⟨locs, X, hN, eT, hn, hcl, hsl⟩ := X
  obtain ⟨s2, o2, st, r⟩ := hr
  subst hp
  exact ⟨s2, o2, XS.lshr X.here hx rfl (hb hby hd) rfl st, r⟩
theorem own_lushr (M : own_Mx Z a0 K code own mx ret rm) (X : own_Sx n0 K T h cl sl) {x : Int64} {y : Int32} (hd : decode code pc = .ok (.lushr, 1)) (hp : pc + 1 = pc') (hr : own_Fin n0 K P T pc' L (.long ((x.toUInt64 >>> (y &&& 0x3f).toInt64.toUInt64).toInt64) :: S)) : own_Fin n0 K P T pc L (.int y :: .long x :: S) := by
  obtain ⟨p, l, e, R, s, m, args, below, meth, c⟩ := K
  obtain ⟨hx, hby, hml, hown, hret, hlk, hZ, rfl, hw⟩ := M
  obtain ⟨locs, X, hN, eT, hn, hcl, hsl⟩ := X
  obtain ⟨s2, o2, st, r⟩ := hr
  subst hp
  exact ⟨s2, o2, XS.lushr X.here hx rfl (hb hby hd) rfl st, r⟩
theorem own_idiv (M : own_Mx Z a0 K code own mx ret rm) (X : own_Sx n0 K T h cl sl) {x y : Int32} (hd : decode code pc = .ok (.idiv, 1)) (hy : y ≠ 0) (hp : pc + 1 = pc') (hr : own_Fin n0 K P T pc' L (.int (x / y) :: S)) : own_Fin n0 K P T pc L (.int y :: .int x :: S) := by
  obtain ⟨p, l, e, R, s, m, args, below, meth, c⟩ := K
  obtain ⟨hx, hby, hml, hown, hret, hlk, hZ, rfl, hw⟩ := M
  obtain ⟨locs, X, hN, eT, hn, hcl, hsl⟩ := X
  obtain ⟨s2, o2, st, r⟩ := hr
  subst hp
  exact ⟨s2, o2, XS.idiv X.here hx rfl (hb hby hd) rfl hy st, r⟩
theorem own_irem (M : own_Mx Z a0 K code own mx ret rm) (X : own_Sx n0 K T h cl sl) {x y : Int32} (hd : decode code pc = .ok (.irem, 1)) (hy : y ≠ 0) (hp : pc + 1 = pc') (hr : own_Fin n0 K P T pc' L (.int (x % y) :: S)) : own_Fin n0 K P T pc L (.int y :: .int x :: S) := by
  obtain ⟨p, l, e, R, s, m, args, below, meth, c⟩ := K
  obtain ⟨hx, hby, hml, hown, hret, hlk, hZ, rfl, hw⟩ := M
  obtain ⟨locs, X, hN, eT, hn, hcl, hsl⟩ := X
  obtain ⟨s2, o2, st, r⟩ := hr
  subst hp
  exact ⟨s2, o2, iremM X hx rfl (hb hby hd) rfl hy st, r⟩
theorem own_ldiv (M : own_Mx Z a0 K code own mx ret rm) (X : own_Sx n0 K T h cl sl) {x y : Int64} (hd : decode code pc = .ok (.ldiv, 1)) (hy : y ≠ 0) (hp : pc + 1 = pc') (hr : own_Fin n0 K P T pc' L (.long (x / y) :: S)) : own_Fin n0 K P T pc L (.long y :: .long x :: S) := by
  obtain ⟨p, l, e, R, s, m, args, below, meth, c⟩ := K
  obtain ⟨hx, hby, hml, hown, hret, hlk, hZ, rfl, hw⟩ := M
  obtain ⟨locs, X, hN, eT, hn, hcl, hsl⟩ := X
  obtain ⟨s2, o2, st, r⟩ := hr
  subst hp
  exact ⟨s2, o2, XS.ldiv X.here hx rfl (hb hby hd) rfl hy st, r⟩
theorem own_lrem (M : own_Mx Z a0 K code own mx ret rm) (X : own_Sx n0 K T h cl sl) {x y : Int64} (hd : decode code pc = .ok (.lrem, 1)) (hy : y ≠ 0) (hp : pc + 1 = pc') (hr : own_Fin n0 K P T pc' L (.long (x - (x / y) * y) :: S)) : own_Fin n0 K P T pc L (.long y :: .long x :: S) := by
  obtain ⟨p, l, e, R, s, m, args, below, meth, c⟩ := K
  obtain ⟨hx, hby, hml, hown, hret, hlk, hZ, rfl, hw⟩ := M
  obtain ⟨locs, X, hN, eT, hn, hcl, hsl⟩ := X
  obtain ⟨s2, o2, st, r⟩ := hr
  subst hp
  exact ⟨s2, o2, XS.lrem X.here hx rfl (hb hby hd) rfl hy st, r⟩
theorem own_ineg (M : own_Mx Z a0 K code own mx ret rm) (X : own_Sx n0 K T h cl sl) {x : Int32} (hd : decode code pc = .ok (.ineg, 1)) (hp : pc + 1 = pc') (hr : own_Fin n0 K P T pc' L (.int (-x) :: S)) : own_Fin n0 K P T pc L (.int x :: S) := by
  obtain ⟨p, l, e, R, s, m, args, below, meth, c⟩ := K
  obtain ⟨hx, hby, hml, hown, hret, hlk, hZ, rfl, hw⟩ := M
  obtain ⟨locs, X, hN, eT, hn, hcl, hsl⟩ := X
  obtain ⟨s2, o2, st, r⟩ := hr
  subst hp
  exact ⟨s2, o2, XS.ineg X.here hx rfl (hb hby hd) rfl st, r⟩
theorem own_lneg (M : own_Mx Z a0 K code own mx ret rm) (X : own_Sx n0 K T h cl sl) {x : Int64} (hd : decode code pc = .ok (.lneg, 1)) (hp : pc + 1 = pc') (hr : own_Fin n0 K P T pc' L (.long (-x) :: S)) : own_Fin n0 K P T pc L (.long x :: S) := by
  obtain ⟨p, l, e, R, s, m, args, below, meth, c⟩ := K
  obtain ⟨hx, hby, hml, hown, hret, hlk, hZ, rfl, hw⟩ := M
  obtain ⟨locs, X, hN, eT, hn, hcl, hsl⟩ := X
  obtain ⟨s2, o2, st, r⟩ := hr
  subst hp
  exact ⟨s2, o2, XS.lneg X.here hx rfl (hb hby hd) rfl st, r⟩
theorem own_i2l (M : own_Mx Z a0 K code own mx ret rm) (X : own_Sx n0 K T h cl sl) {x : Int32} (hd : decode code pc = .ok (.i2l, 1)) (hp : pc + 1 = pc') (hr : own_Fin n0 K P T pc' L (.long (x.toInt64) :: S)) : own_Fin n0 K P T pc L (.int x :: S) := by
  obtain ⟨p, l, e, R, s, m, args, below, meth, c⟩ := K
  obtain ⟨hx, hby, hml, hown, hret, hlk, hZ, rfl, hw⟩ := M
  obtain ⟨locs, X, hN, eT, hn, hcl, hsl⟩ := X
  obtain ⟨s2, o2, st, r⟩ := hr
  subst hp
  exact ⟨s2, o2, XS.i2l X.here hx rfl (hb hby hd) rfl st, r⟩
theorem own_l2i (M : own_Mx Z a0 K code own mx ret rm) (X : own_Sx n0 K T h cl sl) {x : Int64} (hd : decode code pc = .ok (.l2i, 1)) (hp : pc + 1 = pc') (hr : own_Fin n0 K P T pc' L (.int (x.toInt32) :: S)) : own_Fin n0 K P T pc L (.long x :: S) := by
  obtain ⟨p, l, e, R, s, m, args, below, meth, c⟩ := K
  obtain ⟨hx, hby, hml, hown, hret, hlk, hZ, rfl, hw⟩ := M
  obtain ⟨locs, X, hN, eT, hn, hcl, hsl⟩ := X
  obtain ⟨s2, o2, st, r⟩ := hr
  subst hp
  exact ⟨s2, o2, XS.l2i X.here hx rfl (hb hby hd) rfl st, r⟩
theorem own_i2b (M : own_Mx Z a0 K code own mx ret rm) (X : own_Sx n0 K T h cl sl) {x : Int32} (hd : decode code pc = .ok (.i2b, 1)) (hp : pc + 1 = pc') (hr : own_Fin n0 K P T pc' L (.int (x.toInt8.toInt32) :: S)) : own_Fin n0 K P T pc L (.int x :: S) := by
  obtain ⟨p, l, e, R, s, m, args, below, meth, c⟩ := K
  obtain ⟨hx, hby, hml, hown, hret, hlk, hZ, rfl, hw⟩ := M
  obtain ⟨locs, X, hN, eT, hn, hcl, hsl⟩ := X
  obtain ⟨s2, o2, st, r⟩ := hr
  subst hp
  exact ⟨s2, o2, XS.i2b X.here hx rfl (hb hby hd) rfl st, r⟩
theorem own_i2s (M : own_Mx Z a0 K code own mx ret rm) (X : own_Sx n0 K T h cl sl) {x : Int32} (hd : decode code pc = .ok (.i2s, 1)) (hp : pc + 1 = pc') (hr : own_Fin n0 K P T pc' L (.int (x.toInt16.toInt32) :: S)) : own_Fin n0 K P T pc L (.int x :: S) := by
  obtain ⟨p, l, e, R, s, m, args, below, meth, c⟩ := K
  obtain ⟨hx, hby, hml, hown, hret, hlk, hZ, rfl, hw⟩ := M
  obtain ⟨locs, X, hN, eT, hn, hcl, hsl⟩ := X
  obtain ⟨s2, o2, st, r⟩ := hr
  subst hp
  exact ⟨s2, o2, XS.i2s X.here hx rfl (hb hby hd) rfl st, r⟩
theorem own_i2c (M : own_Mx Z a0 K code own mx ret rm) (X : own_Sx n0 K T h cl sl) {x : Int32} (hd : decode code pc = .ok (.i2c, 1)) (hp : pc + 1 = pc') (hr : own_Fin n0 K P T pc' L (.int (x.toUInt32.toUInt16.toUInt32.toInt32) :: S)) : own_Fin n0 K P T pc L (.int x :: S) := by
  obtain ⟨p, l, e, R, s, m, args, below, meth, c⟩ := K
  obtain ⟨hx, hby, hml, hown, hret, hlk, hZ, rfl, hw⟩ := M
  obtain ⟨locs, X, hN, eT, hn, hcl, hsl⟩ := X
  obtain ⟨s2, o2, st, r⟩ := hr
  subst hp
  exact ⟨s2, o2, XS.i2c X.here hx rfl (hb hby hd) rfl st, r⟩
theorem own_iinc (M : own_Mx Z a0 K code own mx ret rm) (X : own_Sx n0 K T h cl sl) {k : Nat} {i : Int} {x v : Int32} (hd : decode code pc = .ok (.iinc k i, 3)) (hl : L[k]? = some (.val (.int x))) (hv : x + Int32.ofInt i = v) (hl' : storeLocals L k (.int v) = some L') (hp : pc + 3 = pc') (hr : own_Fin n0 K P T pc' L' (S)) : own_Fin n0 K P T pc L (S) := by
  obtain ⟨p, l, e, R, s, m, args, below, meth, c⟩ := K
  obtain ⟨hx, hby, hml, hown, hret, hlk, hZ, rfl, hw⟩ := M
  obtain ⟨locs, X, hN, eT, hn, hcl, hsl⟩ := X
  obtain ⟨s2, o2, st, r⟩ := hr
  subst hp
  subst hv
  exact ⟨s2, o2, XS.iinc X.here hx rfl (hb hby hd) hl hl' st, r⟩
theorem own_dup (M : own_Mx Z a0 K code own mx ret rm) (X : own_Sx n0 K T h cl sl) {v : Value} (hd : decode code pc = .ok (.dup, 1)) (hc : v.category = 1) (hp : pc + 1 = pc') (hr : own_Fin n0 K P T pc' L (v :: v :: S)) : own_Fin n0 K P T pc L (v :: S) := by
  obtain ⟨p, l, e, R, s, m, args, below, meth, c⟩ := K
  obtain ⟨hx, hby, hml, hown, hret, hlk, hZ, rfl, hw⟩ := M
  obtain ⟨locs, X, hN, eT, hn, hcl, hsl⟩ := X
  obtain ⟨s2, o2, st, r⟩ := hr
  subst hp
  exact ⟨s2, o2, XS.dup X.here hx rfl (hb hby hd) rfl hc st, r⟩
theorem own_pop (M : own_Mx Z a0 K code own mx ret rm) (X : own_Sx n0 K T h cl sl) {v : Value} (hd : decode code pc = .ok (.pop, 1)) (hc : v.category = 1) (hp : pc + 1 = pc') (hr : own_Fin n0 K P T pc' L (S)) : own_Fin n0 K P T pc L (v :: S) := by
  obtain ⟨p, l, e, R, s, m, args, below, meth, c⟩ := K
  obtain ⟨hx, hby, hml, hown, hret, hlk, hZ, rfl, hw⟩ := M
  obtain ⟨locs, X, hN, eT, hn, hcl, hsl⟩ := X
  obtain ⟨s2, o2, st, r⟩ := hr
  subst hp
  exact ⟨s2, o2, XS.pop X.here hx rfl (hb hby hd) rfl hc st, r⟩
theorem own_dup_x1 (M : own_Mx Z a0 K code own mx ret rm) (X : own_Sx n0 K T h cl sl) {v w : Value} (hd : decode code pc = .ok (.dup_x1, 1)) (hc : v.category = 1) (hc' : w.category = 1) (hp : pc + 1 = pc') (hr : own_Fin n0 K P T pc' L (v :: w :: v :: S)) : own_Fin n0 K P T pc L (v :: w :: S) := by
  obtain ⟨p, l, e, R, s, m, args, below, meth, c⟩ := K
  obtain ⟨hx, hby, hml, hown, hret, hlk, hZ, rfl, hw⟩ := M
  obtain ⟨locs, X, hN, eT, hn, hcl, hsl⟩ := X
  obtain ⟨s2, o2, st, r⟩ := hr
  subst hp
  exact ⟨s2, o2, XS.dupX1 X.here hx rfl (hb hby hd) rfl hc hc' st, r⟩
theorem own_dup2 (M : own_Mx Z a0 K code own mx ret rm) (X : own_Sx n0 K T h cl sl) {v w : Value} (hd : decode code pc = .ok (.dup2, 1)) (hc : v.category = 1) (hc' : w.category = 1) (hp : pc + 1 = pc') (hr : own_Fin n0 K P T pc' L (v :: w :: v :: w :: S)) : own_Fin n0 K P T pc L (v :: w :: S) := by
  obtain ⟨p, l, e, R, s, m, args, below, meth, c⟩ := K
  obtain ⟨hx, hby, hml, hown, hret, hlk, hZ, rfl, hw⟩ := M
  obtain ⟨locs, X, hN, eT, hn, hcl, hsl⟩ := X
  obtain ⟨s2, o2, st, r⟩ := hr
  subst hp
  exact ⟨s2, o2, XT.dup2 X.here hx rfl (hb hby hd) rfl hc hc' st, r⟩
theorem own_goto (M : own_Mx Z a0 K code own mx ret rm) (X : own_Sx n0 K T h cl sl) {o : Int} (hd : decode code pc = .ok (.goto o, 3)) (ho : 0 ≤ (pc : Int) + o) (hp : ((pc : Int) + o).toNat = pc') (hr : own_Fin n0 K P T pc' L S) : own_Fin n0 K P T pc L S := by
  obtain ⟨p, l, e, R, s, m, args, below, meth, c⟩ := K
  obtain ⟨hx, hby, hml, hown, hret, hlk, hZ, rfl, hw⟩ := M
  obtain ⟨locs, X, hN, eT, hn, hcl, hsl⟩ := X
  obtain ⟨s2, o2, st, r⟩ := hr
  exact ⟨s2, o2, XS.goto X.here hx rfl (pc0 := pc) rfl (hb hby hd) ho hp st, r⟩
theorem own_ldc (M : own_Mx Z a0 K code own mx ret rm) (X : own_Sx n0 K T h cl sl) {k : Nat} {v : Int32} (w : (Jvm.Cond.constant own k v).before a0 Z = true) (hd : decode code pc = .ok (.ldc k, 2)) (hp : pc + 2 = pc') (hr : own_Fin n0 K P T pc' L (.int v :: S)) : own_Fin n0 K P T pc L (S) := by
  obtain ⟨p, l, e, R, s, m, args, below, meth, c⟩ := K
  obtain ⟨hx, hby, hml, hown, hret, hlk, hZ, rfl, hw⟩ := M
  obtain ⟨locs, X, hN, eT, hn, hcl, hsl⟩ := X
  obtain ⟨s2, o2, st, r⟩ := hr
  subst hp
  exact ⟨s2, o2, X.ldcInt hx hown (mvT hZ w) (g := mkF m pc L S) rfl (hb hby hd) _ st, r⟩
theorem own_ldc_w (M : own_Mx Z a0 K code own mx ret rm) (X : own_Sx n0 K T h cl sl) {k : Nat} {v : Int32} (w : (Jvm.Cond.constant own k v).before a0 Z = true) (hd : decode code pc = .ok (.ldc_w k, 3)) (hp : pc + 3 = pc') (hr : own_Fin n0 K P T pc' L (.int v :: S)) : own_Fin n0 K P T pc L (S) := by
  obtain ⟨p, l, e, R, s, m, args, below, meth, c⟩ := K
  obtain ⟨hx, hby, hml, hown, hret, hlk, hZ, rfl, hw⟩ := M
  obtain ⟨locs, X, hN, eT, hn, hcl, hsl⟩ := X
  obtain ⟨s2, o2, st, r⟩ := hr
  subst hp
  exact ⟨s2, o2, X.ldcwInt hx hown (mvT hZ w) (g := mkF m pc L S) rfl (hb hby hd) _ st, r⟩
theorem own_ldc2_w (M : own_Mx Z a0 K code own mx ret rm) (X : own_Sx n0 K T h cl sl) {k : Nat} {v : Int64} (w : (Jvm.Cond.constantLong own k v).before a0 Z = true) (hd : decode code pc = .ok (.ldc2_w k, 3)) (hp : pc + 3 = pc') (hr : own_Fin n0 K P T pc' L (.long v :: S)) : own_Fin n0 K P T pc L (S) := by
  obtain ⟨p, l, e, R, s, m, args, below, meth, c⟩ := K
  obtain ⟨hx, hby, hml, hown, hret, hlk, hZ, rfl, hw⟩ := M
  obtain ⟨locs, X, hN, eT, hn, hcl, hsl⟩ := X
  obtain ⟨s2, o2, st, r⟩ := hr
  subst hp
  exact ⟨s2, o2, X.ldc2Long hx hown (mvT hZ w) (g := mkF m pc L S) rfl (hb hby hd) _ st, r⟩
theorem own_icmp_lt (M : own_Mx Z a0 K code own mx ret rm) (X : own_Sx n0 K T h cl sl) {x y : Int32} {o : Int} {pcY pcN : Nat} (hd : decode code pc = .ok (.if_icmp .lt o, 3)) (ho : 0 ≤ (pc : Int) + o) (hY : ((pc : Int) + o).toNat = pcY) (hpN : pc + 3 = pcN) (yes : x < y → own_Fin n0 K P T pcY L S) (no : ¬ x < y → own_Fin n0 K P T pcN L S) : own_Fin n0 K P T pc L (.int y :: .int x :: S) := by
  obtain ⟨p, l, e, R, s, m, args, below, meth, c⟩ := K
  obtain ⟨hx, hby, hml, hown, hret, hlk, hZ, rfl, hw⟩ := M
  obtain ⟨locs, X, hN, eT, hn, hcl, hsl⟩ := X
  subst hpN
  by_cases q : x < y
  · obtain ⟨s2, o2, st, r⟩ := yes q
    exact ⟨s2, o2, XS.icmpYes X.here hx rfl (pc0 := pc) rfl (hb hby hd) rfl (tlt q).1 ho hY st, r⟩
  · obtain ⟨s2, o2, st, r⟩ := no q
    exact ⟨s2, o2, XS.icmpNo X.here hx rfl (hb hby hd) rfl (flt q).1 st, r⟩
theorem own_if_lt (M : own_Mx Z a0 K code own mx ret rm) (X : own_Sx n0 K T h cl sl) {x : Int32} {o : Int} {pcY pcN : Nat} (hd : decode code pc = .ok (.ifCond .lt o, 3)) (ho : 0 ≤ (pc : Int) + o) (hY : ((pc : Int) + o).toNat = pcY) (hpN : pc + 3 = pcN) (yes : x < 0 → own_Fin n0 K P T pcY L S) (no : ¬ x < 0 → own_Fin n0 K P T pcN L S) : own_Fin n0 K P T pc L (.int x :: S) := by
  obtain ⟨p, l, e, R, s, m, args, below, meth, c⟩ := K
  obtain ⟨hx, hby, hml, hown, hret, hlk, hZ, rfl, hw⟩ := M
  obtain ⟨locs, X, hN, eT, hn, hcl, hsl⟩ := X
  subst hpN
  by_cases q : x < 0
  · obtain ⟨s2, o2, st, r⟩ := yes q
    exact ⟨s2, o2, XS.ifYes X.here hx rfl (pc0 := pc) rfl (hb hby hd) rfl ((if0 _ _).trans (tlt q).1) ho hY st, r⟩
  · obtain ⟨s2, o2, st, r⟩ := no q
    exact ⟨s2, o2, XS.ifNo X.here hx rfl (hb hby hd) rfl ((if0 _ _).trans (flt q).1) st, r⟩
theorem own_lcmp_lt (M : own_Mx Z a0 K code own mx ret rm) (X : own_Sx n0 K T h cl sl) {x y : Int64} {pc1 : Nat} {o : Int} {pcY pcN : Nat} (hdc : decode code pc = .ok (.lcmp, 1)) (h1 : pc + 1 = pc1) (hd : decode code pc1 = .ok (.ifCond .lt o, 3)) (ho : 0 ≤ (pc1 : Int) + o) (hY : ((pc1 : Int) + o).toNat = pcY) (hpN : pc1 + 3 = pcN) (yes : x < y → own_Fin n0 K P T pcY L S) (no : ¬ x < y → own_Fin n0 K P T pcN L S) : own_Fin n0 K P T pc L (.long y :: .long x :: S) := by
  obtain ⟨p, l, e, R, s, m, args, below, meth, c⟩ := K
  obtain ⟨hx, hby, hml, hown, hret, hlk, hZ, rfl, hw⟩ := M
  obtain ⟨locs, X, hN, eT, hn, hcl, hsl⟩ := X
  subst hpN h1
  by_cases q : x < y
  · obtain ⟨s2, o2, st, r⟩ := yes q
    exact ⟨s2, o2, XS.lcmp X.here hx rfl (hb hby hdc) rfl (XS.ifYes (g := mkF m (pc + 1) L (.int (lcmpW x y) :: S)) X.here hx rfl (pc0 := pc + 1) rfl (hb hby hd) rfl ((if0 _ _).trans (tlt ((lw_lt x y).mpr q)).1) ho hY st), r⟩
  · obtain ⟨s2, o2, st, r⟩ := no q
    exact ⟨s2, o2, XS.lcmp X.here hx rfl (hb hby hdc) rfl (XS.ifNo (g := mkF m (pc + 1) L (.int (lcmpW x y) :: S)) X.here hx rfl (hb hby hd) rfl ((if0 _ _).trans (flt (fun z => q ((lw_lt x y).mp z))).1) st), r⟩
theorem own_icmp_ge (M : own_Mx Z a0 K code own mx ret rm) (X : own_Sx n0 K T h cl sl) {x y : Int32} {o : Int} {pcY pcN : Nat} (hd : decode code pc = .ok (.if_icmp .ge o, 3)) (ho : 0 ≤ (pc : Int) + o) (hY : ((pc : Int) + o).toNat = pcY) (hpN : pc + 3 = pcN) (yes : ¬ x < y → own_Fin n0 K P T pcY L S) (no : x < y → own_Fin n0 K P T pcN L S) : own_Fin n0 K P T pc L (.int y :: .int x :: S) := by
  obtain ⟨p, l, e, R, s, m, args, below, meth, c⟩ := K
  obtain ⟨hx, hby, hml, hown, hret, hlk, hZ, rfl, hw⟩ := M
  obtain ⟨locs, X, hN, eT, hn, hcl, hsl⟩ := X
  subst hpN
  by_cases q : x < y
  · obtain ⟨s2, o2, st, r⟩ := no q
    exact ⟨s2, o2, XS.icmpNo X.here hx rfl (hb hby hd) rfl (tlt q).2.1 st, r⟩
  · obtain ⟨s2, o2, st, r⟩ := yes q
    exact ⟨s2, o2, XS.icmpYes X.here hx rfl (pc0 := pc) rfl (hb hby hd) rfl (flt q).2.1 ho hY st, r⟩
theorem own_if_ge (M : own_Mx Z a0 K code own mx ret rm) (X : own_Sx n0 K T h cl sl) {x : Int32} {o : Int} {pcY pcN : Nat} (hd : decode code pc = .ok (.ifCond .ge o, 3)) (ho : 0 ≤ (pc : Int) + o) (hY : ((pc : Int) + o).toNat = pcY) (hpN : pc + 3 = pcN) (yes : ¬ x < 0 → own_Fin n0 K P T pcY L S) (no : x < 0 → own_Fin n0 K P T pcN L S) : own_Fin n0 K P T pc L (.int x :: S) := by
  obtain ⟨p, l, e, R, s, m, args, below, meth, c⟩ := K
  obtain ⟨hx, hby, hml, hown, hret, hlk, hZ, rfl, hw⟩ := M
  obtain ⟨locs, X, hN, eT, hn, hcl, hsl⟩ := X
  subst hpN
  by_cases q : x < 0
  · obtain ⟨s2, o2, st, r⟩ := no q
    exact ⟨s2, o2, XS.ifNo X.here hx rfl (hb hby hd) rfl ((if0 _ _).trans (tlt q).2.1) st, r⟩
  · obtain ⟨s2, o2, st, r⟩ := yes q
    exact ⟨s2, o2, XS.ifYes X.here hx rfl (pc0 := pc) rfl (hb hby hd) rfl ((if0 _ _).trans (flt q).2.1) ho hY st, r⟩
theorem own_lcmp_ge (M : own_Mx Z a0 K code own mx ret rm) (X : own_Sx n0 K T h cl sl) {x y : Int64} {pc1 : Nat} {o : Int} {pcY pcN : Nat} (hdc : decode code pc = .ok (.lcmp, 1)) (h1 : pc + 1 = pc1) (hd : decode code pc1 = .ok (.ifCond .ge o, 3)) (ho : 0 ≤ (pc1 : Int) + o) (hY : ((pc1 : Int) + o).toNat = pcY) (hpN : pc1 + 3 = pcN) (yes : ¬ x < y → own_Fin n0 K P T pcY L S) (no : x < y → own_Fin n0 K P T pcN L S) : own_Fin n0 K P T pc L (.long y :: .long x :: S) := by
  obtain ⟨p, l, e, R, s, m, args, below, meth, c⟩ := K
  obtain ⟨hx, hby, hml, hown, hret, hlk, hZ, rfl, hw⟩ := M
  obtain ⟨locs, X, hN, eT, hn, hcl, hsl⟩ := X
  subst hpN h1
  by_cases q : x < y
  · obtain ⟨s2, o2, st, r⟩ := no q
    exact ⟨s2, o2, XS.lcmp X.here hx rfl (hb hby hdc) rfl (XS.ifNo (g := mkF m (pc + 1) L (.int (lcmpW x y) :: S)) X.here hx rfl (hb hby hd) rfl ((if0 _ _).trans (tlt ((lw_lt x y).mpr q)).2.1) st), r⟩
  · obtain ⟨s2, o2, st, r⟩ := yes q
    exact ⟨s2, o2, XS.lcmp X.here hx rfl (hb hby hdc) rfl (XS.ifYes (g := mkF m (pc + 1) L (.int (lcmpW x y) :: S)) X.here hx rfl (pc0 := pc + 1) rfl (hb hby hd) rfl ((if0 _ _).trans (flt (fun z => q ((lw_lt x y).mp z))).2.1) ho hY st), r⟩
theorem own_icmp_gt (M : own_Mx Z a0 K code own mx ret rm) (X : own_Sx n0 K T h cl sl) {x y : Int32} {o : Int} {pcY pcN : Nat} (hd : decode code pc = .ok (.if_icmp .gt o, 3)) (ho : 0 ≤ (pc : Int) + o) (hY : ((pc : Int) + o).toNat = pcY) (hpN : pc + 3 = pcN) (yes : y < x → own_Fin n0 K P T pcY L S) (no : ¬ y < x → own_Fin n0 K P T pcN L S) : own_Fin n0 K P T pc L (.int y :: .int x :: S) := by
  obtain ⟨p, l, e, R, s, m, args, below, meth, c⟩ := K
  obtain ⟨hx, hby, hml, hown, hret, hlk, hZ, rfl, hw⟩ := M
  obtain ⟨locs, X, hN, eT, hn, hcl, hsl⟩ := X
  subst hpN
  by_cases q : y < x
  · obtain ⟨s2, o2, st, r⟩ := yes q
    exact ⟨s2, o2, XS.icmpYes X.here hx rfl (pc0 := pc) rfl (hb hby hd) rfl (tlt q).2.2.1 ho hY st, r⟩
  · obtain ⟨s2, o2, st, r⟩ := no q
    exact ⟨s2, o2, XS.icmpNo X.here hx rfl (hb hby hd) rfl (flt q).2.2.1 st, r⟩
theorem own_if_gt (M : own_Mx Z a0 K code own mx ret rm) (X : own_Sx n0 K T h cl sl) {x : Int32} {o : Int} {pcY pcN : Nat} (hd : decode code pc = .ok (.ifCond .gt o, 3)) (ho : 0 ≤ (pc : Int) + o) (hY : ((pc : Int) + o).toNat = pcY) (hpN : pc + 3 = pcN) (yes : 0 < x → own_Fin n0 K P T pcY L S) (no : ¬ 0 < x → own_Fin n0 K P T pcN L S) : own_Fin n0 K P T pc L (.int x :: S) := by
  obtain ⟨p, l, e, R, s, m, args, below, meth, c⟩ := K
  obtain ⟨hx, hby, hml, hown, hret, hlk, hZ, rfl, hw⟩ := M
  obtain ⟨locs, X, hN, eT, hn, hcl, hsl⟩ := X
  subst hpN
  by_cases q : 0 < x
  · obtain ⟨s2, o2, st, r⟩ := yes q
    exact ⟨s2, o2, XS.ifYes X.here hx rfl (pc0 := pc) rfl (hb hby hd) rfl ((if0 _ _).trans (tlt q).2.2.1) ho hY st, r⟩
  · obtain ⟨s2, o2, st, r⟩ := no q
    exact ⟨s2, o2, XS.ifNo X.here hx rfl (hb hby hd) rfl ((if0 _ _).trans (flt q).2.2.1) st, r⟩
theorem own_lcmp_gt (M : own_Mx Z a0 K code own mx ret rm) (X : own_Sx n0 K T h cl sl) {x y : Int64} {pc1 : Nat} {o : Int} {pcY pcN : Nat} (hdc : decode code pc = .ok (.lcmp, 1)) (h1 : pc + 1 = pc1) (hd : decode code pc1 = .ok (.ifCond .gt o, 3)) (ho : 0 ≤ (pc1 : Int) + o) (hY : ((pc1 : Int) + o).toNat = pcY) (hpN : pc1 + 3 = pcN) (yes : y < x → own_Fin n0 K P T pcY L S) (no : ¬ y < x → own_Fin n0 K P T pcN L S) : own_Fin n0 K P T pc L (.long y :: .long x :: S) := by
  obtain ⟨p, l, e, R, s, m, args, below, meth, c⟩ := K
  obtain ⟨hx, hby, hml, hown, hret, hlk, hZ, rfl, hw⟩ := M
  obtain ⟨locs, X, hN, eT, hn, hcl, hsl⟩ := X
  subst hpN h1
  by_cases q : y < x
  · obtain ⟨s2, o2, st, r⟩ := yes q
    exact ⟨s2, o2, XS.lcmp X.here hx rfl (hb hby hdc) rfl (XS.ifYes (g := mkF m (pc + 1) L (.int (lcmpW x y) :: S)) X.here hx rfl (pc0 := pc + 1) rfl (hb hby hd) rfl ((if0 _ _).trans (tlt ((lw_gt x y).mpr q)).2.2.1) ho hY st), r⟩
  · obtain ⟨s2, o2, st, r⟩ := no q
    exact ⟨s2, o2, XS.lcmp X.here hx rfl (hb hby hdc) rfl (XS.ifNo (g := mkF m (pc + 1) L (.int (lcmpW x y) :: S)) X.here hx rfl (hb hby hd) rfl ((if0 _ _).trans (flt (fun z => q ((lw_gt x y).mp z))).2.2.1) st), r⟩
theorem own_icmp_le (M : own_Mx Z a0 K code own mx ret rm) (X : own_Sx n0 K T h cl sl) {x y : Int32} {o : Int} {pcY pcN : Nat} (hd : decode code pc = .ok (.if_icmp .le o, 3)) (ho : 0 ≤ (pc : Int) + o) (hY : ((pc : Int) + o).toNat = pcY) (hpN : pc + 3 = pcN) (yes : ¬ y < x → own_Fin n0 K P T pcY L S) (no : y < x → own_Fin n0 K P T pcN L S) : own_Fin n0 K P T pc L (.int y :: .int x :: S) := by
  obtain ⟨p, l, e, R, s, m, args, below, meth, c⟩ := K
  obtain ⟨hx, hby, hml, hown, hret, hlk, hZ, rfl, hw⟩ := M
  obtain ⟨locs, X, hN, eT, hn, hcl, hsl⟩ := X
  subst hpN
  by_cases q : y < x
  · obtain ⟨s2, o2, st, r⟩ := no q
    exact ⟨s2, o2, XS.icmpNo X.here hx rfl (hb hby hd) rfl (tlt q).2.2.2 st, r⟩
  · obtain ⟨s2, o2, st, r⟩ := yes q
    exact ⟨s2, o2, XS.icmpYes X.here hx rfl (pc0 := pc) rfl (hb hby hd) rfl (flt q).2.2.2 ho hY st, r⟩
theorem own_if_le (M : own_Mx Z a0 K code own mx ret rm) (X : own_Sx n0 K T h cl sl) {x : Int32} {o : Int} {pcY pcN : Nat} (hd : decode code pc = .ok (.ifCond .le o, 3)) (ho : 0 ≤ (pc : Int) + o) (hY : ((pc : Int) + o).toNat = pcY) (hpN : pc + 3 = pcN) (yes : ¬ 0 < x → own_Fin n0 K P T pcY L S) (no : 0 < x → own_Fin n0 K P T pcN L S) : own_Fin n0 K P T pc L (.int x :: S) := by
  obtain ⟨p, l, e, R, s, m, args, below, meth, c⟩ := K
  obtain ⟨hx, hby, hml, hown, hret, hlk, hZ, rfl, hw⟩ := M
  obtain ⟨locs, X, hN, eT, hn, hcl, hsl⟩ := X
  subst hpN
  by_cases q : 0 < x
  · obtain ⟨s2, o2, st, r⟩ := no q
    exact ⟨s2, o2, XS.ifNo X.here hx rfl (hb hby hd) rfl ((if0 _ _).trans (tlt q).2.2.2) st, r⟩
  · obtain ⟨s2, o2, st, r⟩ := yes q
    exact ⟨s2, o2, XS.ifYes X.here hx rfl (pc0 := pc) rfl (hb hby hd) rfl ((if0 _ _).trans (flt q).2.2.2) ho hY st, r⟩
theorem own_lcmp_le (M : own_Mx Z a0 K code own mx ret rm) (X : own_Sx n0 K T h cl sl) {x y : Int64} {pc1 : Nat} {o : Int} {pcY pcN : Nat} (hdc : decode code pc = .ok (.lcmp, 1)) (h1 : pc + 1 = pc1) (hd : decode code pc1 = .ok (.ifCond .le o, 3)) (ho : 0 ≤ (pc1 : Int) + o) (hY : ((pc1 : Int) + o).toNat = pcY) (hpN : pc1 + 3 = pcN) (yes : ¬ y < x → own_Fin n0 K P T pcY L S) (no : y < x → own_Fin n0 K P T pcN L S) : own_Fin n0 K P T pc L (.long y :: .long x :: S) := by
  obtain ⟨p, l, e, R, s, m, args, below, meth, c⟩ := K
  obtain ⟨hx, hby, hml, hown, hret, hlk, hZ, rfl, hw⟩ := M
  obtain ⟨locs, X, hN, eT, hn, hcl, hsl⟩ := X
  subst hpN h1
  by_cases q : y < x
  · obtain ⟨s2, o2, st, r⟩ := no q
    exact ⟨s2, o2, XS.lcmp X.here hx rfl (hb hby hdc) rfl (XS.ifNo (g := mkF m (pc + 1) L (.int (lcmpW x y) :: S)) X.here hx rfl (hb hby hd) rfl ((if0 _ _).trans (tlt ((lw_gt x y).mpr q)).2.2.2) st), r⟩
  · obtain ⟨s2, o2, st, r⟩ := yes q
    exact ⟨s2, o2, XS.lcmp X.here hx rfl (hb hby hdc) rfl (XS.ifYes (g := mkF m (pc + 1) L (.int (lcmpW x y) :: S)) X.here hx rfl (pc0 := pc + 1) rfl (hb hby hd) rfl ((if0 _ _).trans (flt (fun z => q ((lw_gt x y).mp z))).2.2.2) ho hY st), r⟩
theorem own_icmp_eq (M : own_Mx Z a0 K code own mx ret rm) (X : own_Sx n0 K T h cl sl) {x y : Int32} {o : Int} {pcY pcN : Nat} (hd : decode code pc = .ok (.if_icmp .eq o, 3)) (ho : 0 ≤ (pc : Int) + o) (hY : ((pc : Int) + o).toNat = pcY) (hpN : pc + 3 = pcN) (yes : x = y → own_Fin n0 K P T pcY L S) (no : ¬ x = y → own_Fin n0 K P T pcN L S) : own_Fin n0 K P T pc L (.int y :: .int x :: S) := by
  obtain ⟨p, l, e, R, s, m, args, below, meth, c⟩ := K
  obtain ⟨hx, hby, hml, hown, hret, hlk, hZ, rfl, hw⟩ := M
  obtain ⟨locs, X, hN, eT, hn, hcl, hsl⟩ := X
  subst hpN
  by_cases q : x = y
  · obtain ⟨s2, o2, st, r⟩ := yes q
    exact ⟨s2, o2, XS.icmpYes X.here hx rfl (pc0 := pc) rfl (hb hby hd) rfl (teq q).1 ho hY st, r⟩
  · obtain ⟨s2, o2, st, r⟩ := no q
    exact ⟨s2, o2, XS.icmpNo X.here hx rfl (hb hby hd) rfl (feq q).1 st, r⟩
theorem own_if_eq (M : own_Mx Z a0 K code own mx ret rm) (X : own_Sx n0 K T h cl sl) {x : Int32} {o : Int} {pcY pcN : Nat} (hd : decode code pc = .ok (.ifCond .eq o, 3)) (ho : 0 ≤ (pc : Int) + o) (hY : ((pc : Int) + o).toNat = pcY) (hpN : pc + 3 = pcN) (yes : x = 0 → own_Fin n0 K P T pcY L S) (no : ¬ x = 0 → own_Fin n0 K P T pcN L S) : own_Fin n0 K P T pc L (.int x :: S) := by
  obtain ⟨p, l, e, R, s, m, args, below, meth, c⟩ := K
  obtain ⟨hx, hby, hml, hown, hret, hlk, hZ, rfl, hw⟩ := M
  obtain ⟨locs, X, hN, eT, hn, hcl, hsl⟩ := X
  subst hpN
  by_cases q : x = 0
  · obtain ⟨s2, o2, st, r⟩ := yes q
    exact ⟨s2, o2, XS.ifYes X.here hx rfl (pc0 := pc) rfl (hb hby hd) rfl ((if0 _ _).trans (teq q).1) ho hY st, r⟩
  · obtain ⟨s2, o2, st, r⟩ := no q
    exact ⟨s2, o2, XS.ifNo X.here hx rfl (hb hby hd) rfl ((if0 _ _).trans (feq q).1) st, r⟩
theorem own_lcmp_eq (M : own_Mx Z a0 K code own mx ret rm) (X : own_Sx n0 K T h cl sl) {x y : Int64} {pc1 : Nat} {o : Int} {pcY pcN : Nat} (hdc : decode code pc = .ok (.lcmp, 1)) (h1 : pc + 1 = pc1) (hd : decode code pc1 = .ok (.ifCond .eq o, 3)) (ho : 0 ≤ (pc1 : Int) + o) (hY : ((pc1 : Int) + o).toNat = pcY) (hpN : pc1 + 3 = pcN) (yes : x = y → own_Fin n0 K P T pcY L S) (no : ¬ x = y → own_Fin n0 K P T pcN L S) : own_Fin n0 K P T pc L (.long y :: .long x :: S) := by
  obtain ⟨p, l, e, R, s, m, args, below, meth, c⟩ := K
  obtain ⟨hx, hby, hml, hown, hret, hlk, hZ, rfl, hw⟩ := M
  obtain ⟨locs, X, hN, eT, hn, hcl, hsl⟩ := X
  subst hpN h1
  by_cases q : x = y
  · obtain ⟨s2, o2, st, r⟩ := yes q
    exact ⟨s2, o2, XS.lcmp X.here hx rfl (hb hby hdc) rfl (XS.ifYes (g := mkF m (pc + 1) L (.int (lcmpW x y) :: S)) X.here hx rfl (pc0 := pc + 1) rfl (hb hby hd) rfl ((if0 _ _).trans (teq ((lw_eq x y).mpr q)).1) ho hY st), r⟩
  · obtain ⟨s2, o2, st, r⟩ := no q
    exact ⟨s2, o2, XS.lcmp X.here hx rfl (hb hby hdc) rfl (XS.ifNo (g := mkF m (pc + 1) L (.int (lcmpW x y) :: S)) X.here hx rfl (hb hby hd) rfl ((if0 _ _).trans (feq (fun z => q ((lw_eq x y).mp z))).1) st), r⟩
theorem own_icmp_ne (M : own_Mx Z a0 K code own mx ret rm) (X : own_Sx n0 K T h cl sl) {x y : Int32} {o : Int} {pcY pcN : Nat} (hd : decode code pc = .ok (.if_icmp .ne o, 3)) (ho : 0 ≤ (pc : Int) + o) (hY : ((pc : Int) + o).toNat = pcY) (hpN : pc + 3 = pcN) (yes : ¬ x = y → own_Fin n0 K P T pcY L S) (no : x = y → own_Fin n0 K P T pcN L S) : own_Fin n0 K P T pc L (.int y :: .int x :: S) := by
  obtain ⟨p, l, e, R, s, m, args, below, meth, c⟩ := K
  obtain ⟨hx, hby, hml, hown, hret, hlk, hZ, rfl, hw⟩ := M
  obtain ⟨locs, X, hN, eT, hn, hcl, hsl⟩ := X
  subst hpN
  by_cases q : x = y
  · obtain ⟨s2, o2, st, r⟩ := no q
    exact ⟨s2, o2, XS.icmpNo X.here hx rfl (hb hby hd) rfl (teq q).2 st, r⟩
  · obtain ⟨s2, o2, st, r⟩ := yes q
    exact ⟨s2, o2, XS.icmpYes X.here hx rfl (pc0 := pc) rfl (hb hby hd) rfl (feq q).2 ho hY st, r⟩
theorem own_if_ne (M : own_Mx Z a0 K code own mx ret rm) (X : own_Sx n0 K T h cl sl) {x : Int32} {o : Int} {pcY pcN : Nat} (hd : decode code pc = .ok (.ifCond .ne o, 3)) (ho : 0 ≤ (pc : Int) + o) (hY : ((pc : Int) + o).toNat = pcY) (hpN : pc + 3 = pcN) (yes : ¬ x = 0 → own_Fin n0 K P T pcY L S) (no : x = 0 → own_Fin n0 K P T pcN L S) : own_Fin n0 K P T pc L (.int x :: S) := by
  obtain ⟨p, l, e, R, s, m, args, below, meth, c⟩ := K
  obtain ⟨hx, hby, hml, hown, hret, hlk, hZ, rfl, hw⟩ := M
  obtain ⟨locs, X, hN, eT, hn, hcl, hsl⟩ := X
  subst hpN
  by_cases q : x = 0
  · obtain ⟨s2, o2, st, r⟩ := no q
    exact ⟨s2, o2, XS.ifNo X.here hx rfl (hb hby hd) rfl ((if0 _ _).trans (teq q).2) st, r⟩
  · obtain ⟨s2, o2, st, r⟩ := yes q
    exact ⟨s2, o2, XS.ifYes X.here hx rfl (pc0 := pc) rfl (hb hby hd) rfl ((if0 _ _).trans (feq q).2) ho hY st, r⟩
theorem own_lcmp_ne (M : own_Mx Z a0 K code own mx ret rm) (X : own_Sx n0 K T h cl sl) {x y : Int64} {pc1 : Nat} {o : Int} {pcY pcN : Nat} (hdc : decode code pc = .ok (.lcmp, 1)) (h1 : pc + 1 = pc1) (hd : decode code pc1 = .ok (.ifCond .ne o, 3)) (ho : 0 ≤ (pc1 : Int) + o) (hY : ((pc1 : Int) + o).toNat = pcY) (hpN : pc1 + 3 = pcN) (yes : ¬ x = y → own_Fin n0 K P T pcY L S) (no : x = y → own_Fin n0 K P T pcN L S) : own_Fin n0 K P T pc L (.long y :: .long x :: S) := by
  obtain ⟨p, l, e, R, s, m, args, below, meth, c⟩ := K
  obtain ⟨hx, hby, hml, hown, hret, hlk, hZ, rfl, hw⟩ := M
  obtain ⟨locs, X, hN, eT, hn, hcl, hsl⟩ := X
  subst hpN h1
  by_cases q : x = y
  · obtain ⟨s2, o2, st, r⟩ := no q
    exact ⟨s2, o2, XS.lcmp X.here hx rfl (hb hby hdc) rfl (XS.ifNo (g := mkF m (pc + 1) L (.int (lcmpW x y) :: S)) X.here hx rfl (hb hby hd) rfl ((if0 _ _).trans (teq ((lw_eq x y).mpr q)).2) st), r⟩
  · obtain ⟨s2, o2, st, r⟩ := yes q
    exact ⟨s2, o2, XS.lcmp X.here hx rfl (hb hby hdc) rfl (XS.ifYes (g := mkF m (pc + 1) L (.int (lcmpW x y) :: S)) X.here hx rfl (pc0 := pc + 1) rfl (hb hby hd) rfl ((if0 _ _).trans (feq (fun z => q ((lw_eq x y).mp z))).2) ho hY st), r⟩
theorem own_callS (M : own_Mx Z a0 K code own mx ret rm) (X : own_Sx n0 K T h cl sl) {y : MethodName} {ycode : ByteArray} {ymx : Nat} {yret : Option FieldType} {yrm : Room} {idx : Nat} {Q : Option Value → Heap → Prop} {ps : List FieldType} {yr : Option FieldType} (argsL : List Value)
    (w1 : (Jvm.Cond.methodLink own idx y).before a0 Z = true) (w2 : (Jvm.Cond.static y).before a0 Z = true) (w3 : (Jvm.Cond.initialized y.cls).before a0 Z = true) (w4 : (Jvm.Cond.code y ycode ymx yret).before a0 Z = true) (hy : y.cls ≠ "java/lang/invoke/MethodHandle" ∧ y.cls ≠ "java/lang/invoke/VarHandle")
    (hM : own_Met K.2.1 Z n0 y ycode ymx yret yrm argsL.toArray h Q) (hL : L.size = mx) (hd : decode code pc = .ok (.invokestatic idx, 3)) (hp : pc + 3 = pc') (hpd : parseMethodDescriptor y.desc = some ⟨ps, yr⟩) (hlen : argsL.length = ps.length) (hS : S = argsL.reverse ++ rest)
    (W : Nat) (hW : (rest.map fun v => v.category).sum ≤ W) (hf : yrm.frames + 1 ≤ rm.frames) (hl : W + (ymx + 11) + yrm.locals ≤ rm.locals) (hc : cl + yrm.cells ≤ rm.cells) (hs : sl + yrm.slots ≤ rm.slots)
    (hr : ∀ T' h' v, own_Sx n0 K T' h' (cl + yrm.cells) (sl + yrm.slots) → Q v h' → own_Fin n0 K P T' pc' L (v.toList ++ rest)) : own_Fin n0 K P T pc L S := by
  obtain ⟨p, l, e, R, s, m, args, below, meth, c⟩ := K
  obtain ⟨hx, hby, hml, hown, hret, hlk, hZ, rfl, hw⟩ := M
  obtain ⟨locs, X, hN, eT, hn, hcl, hsl⟩ := X
  obtain ⟨v, vm1, ⟨T1, L1, k1, n1⟩, -, X1, ⟨Lc, hQ, l1, y1, z1⟩, st⟩ := Jvm.LawKit.callS X hx (y := y) hown (mvT hZ w1) (mvT hZ w2) (mvT hZ w3) (mvT hZ w4) hy (backOf (W := W) (Q := fun v h L => Q v h ∧ Fr n0 L) (hM []) hZ w4 w3 hf hl) (g := mkF m pc L S) rfl (by rw [hml]; exact hL) (argsL := argsL) (rest := rest) (lenOf hpd hlen) hS (by show 2 * 0 + _ ≤ W; omega) (hb hby hd) (fun _ _ => ⟨rfl, eT, hc, hs⟩)
  dsimp only [Pt.U, Pt.locs, Pt.cells, Pt.slots] at X1 l1 y1 z1 st hQ
  subst l1 y1 z1 hp
  obtain ⟨s2, o2, st2, r⟩ := hr T1 _ v ⟨_, X1, Fr.app hN hQ.2, rfl, hn, hc, hs⟩ hQ.1
  exact ⟨s2, o2, st _ st2, r⟩
theorem own_callP (M : own_Mx Z a0 K code own mx ret rm) (X : own_Sx n0 K T h cl sl) {y : MethodName} {ycode : ByteArray} {ymx : Nat} {yret : Option FieldType} {yrm : Room} {idx : Nat} {ps : List FieldType} {yr : Option FieldType} {w : Value} (argsL : List Value)
    (w1 : (Jvm.Cond.methodLink own idx y).before a0 Z = true) (w2 : (Jvm.Cond.static y).before a0 Z = true) (w3 : (Jvm.Cond.initialized y.cls).before a0 Z = true) (w4 : (Jvm.Cond.code y ycode ymx yret).before a0 Z = true) (hy : y.cls ≠ "java/lang/invoke/MethodHandle" ∧ y.cls ≠ "java/lang/invoke/VarHandle")
    (hM : own_Met K.2.1 Z n0 y ycode ymx yret yrm argsL.toArray h (fun v h' => v = some w ∧ h' = h)) (hL : L.size = mx) (hd : decode code pc = .ok (.invokestatic idx, 3)) (hp : pc + 3 = pc') (hpd : parseMethodDescriptor y.desc = some ⟨ps, yr⟩) (hlen : argsL.length = ps.length) (hS : S = argsL.reverse ++ rest)
    (W : Nat) (hW : (rest.map fun v => v.category).sum ≤ W) (hf : yrm.frames + 1 ≤ rm.frames) (hl : W + (ymx + 11) + yrm.locals ≤ rm.locals) (hc0 : yrm.cells = 0) (hs0 : yrm.slots = 0)
    (hr : ∀ T', own_Sx n0 K T' h cl sl → own_Fin n0 K P T' pc' L (w :: rest)) : own_Fin n0 K P T pc L S := by
  have hcs : cl ≤ rm.cells ∧ sl ≤ rm.slots := by
    obtain ⟨p, l, e, R, s, m, args, below, meth, c⟩ := K
    obtain ⟨hx, hby, hml, hown, hret, hlk, hZ, rfl, hw⟩ := M
    obtain ⟨locs, X, hN, eT, hn, hcl, hsl⟩ := X
    exact ⟨hcl, hsl⟩
  refine own_callS M X argsL w1 w2 w3 w4 hy hM hL hd hp hpd hlen hS W hW hf hl (by rw [hc0]; exact hcs.1) (by rw [hs0]; exact hcs.2) ?_
  rintro T' h' v X' ⟨rfl, rfl⟩
  rw [hc0, hs0] at X'
  exact hr T' X'
theorem own_callP0 (M : own_Mx Z a0 K code own mx ret rm) (X : own_Sx n0 K T h cl sl) {y : MethodName} {ycode : ByteArray} {ymx : Nat} {yret : Option FieldType} {yrm : Room} {idx : Nat} {ps : List FieldType} {yr : Option FieldType} (argsL : List Value)
    (w1 : (Jvm.Cond.methodLink own idx y).before a0 Z = true) (w2 : (Jvm.Cond.static y).before a0 Z = true) (w3 : (Jvm.Cond.initialized y.cls).before a0 Z = true) (w4 : (Jvm.Cond.code y ycode ymx yret).before a0 Z = true) (hy : y.cls ≠ "java/lang/invoke/MethodHandle" ∧ y.cls ≠ "java/lang/invoke/VarHandle")
    (hM : own_Met K.2.1 Z n0 y ycode ymx yret yrm argsL.toArray h (fun v h' => v = none ∧ h' = h)) (hL : L.size = mx) (hd : decode code pc = .ok (.invokestatic idx, 3)) (hp : pc + 3 = pc') (hpd : parseMethodDescriptor y.desc = some ⟨ps, yr⟩) (hlen : argsL.length = ps.length) (hS : S = argsL.reverse ++ rest)
    (W : Nat) (hW : (rest.map fun v => v.category).sum ≤ W) (hf : yrm.frames + 1 ≤ rm.frames) (hl : W + (ymx + 11) + yrm.locals ≤ rm.locals) (hc0 : yrm.cells = 0) (hs0 : yrm.slots = 0)
    (hr : ∀ T', own_Sx n0 K T' h cl sl → own_Fin n0 K P T' pc' L (rest)) : own_Fin n0 K P T pc L S := by
  have hcs : cl ≤ rm.cells ∧ sl ≤ rm.slots := by
    obtain ⟨p, l, e, R, s, m, args, below, meth, c⟩ := K
    obtain ⟨hx, hby, hml, hown, hret, hlk, hZ, rfl, hw⟩ := M
    obtain ⟨locs, X, hN, eT, hn, hcl, hsl⟩ := X
    exact ⟨hcl, hsl⟩
  refine own_callS M X argsL w1 w2 w3 w4 hy hM hL hd hp hpd hlen hS W hW hf hl (by rw [hc0]; exact hcs.1) (by rw [hs0]; exact hcs.2) ?_
  rintro T' h' v X' ⟨rfl, rfl⟩
  rw [hc0, hs0] at X'
  exact hr T' X'
/-! arrays: n places, place j holds f j -/
def own_Va (Z : State) (h : Heap) (a : Addr) (ty : FieldType) (n : Nat) (f : Nat → Value) : Prop :=
  ∃ c : Cell, Arr Z h a c ty ∧ c.slots.size = n ∧ n < 2 ^ 31 ∧ (∀ j, j < n → c.slots[j]? = some (f j)) ∧ ∀ j, j < n → fits ty (f j) = true
def own_upd (f : Nat → Value) (i : Nat) (v : Value) : Nat → Value := fun j => if j = i then v else f j
theorem own_Va.lt {a : Addr} {ty : FieldType} {n : Nat} {f : Nat → Value} (V : own_Va Z h a ty n f) : a < h.size := by obtain ⟨c, A, -⟩ := V; exact A.lt
theorem own_Va.small {a : Addr} {ty : FieldType} {n : Nat} {f : Nat → Value} (V : own_Va Z h a ty n f) : n < 2 ^ 31 := by obtain ⟨c, A, -, q, -⟩ := V; exact q
theorem own_Va.ext {h' : Heap} {a : Addr} {ty : FieldType} {n : Nat} {f : Nat → Value} (V : own_Va Z h a ty n f) (E : Ext h h') : own_Va Z h' a ty n f := by obtain ⟨c, A, r⟩ := V; exact ⟨c, A.ext E, r⟩
theorem own_Va.keep {h' : Heap} {ws : List Addr} {a : Addr} {ty : FieldType} {n : Nat} {f : Nat → Value} (V : own_Va Z h a ty n f) (K : Keep h h' ws) (q : a ∉ ws) : own_Va Z h' a ty n f := by obtain ⟨c, A, r⟩ := V; exact ⟨c, ⟨K.2.1 a c A.1 q, A.2⟩, r⟩
theorem own_Va.congr {a : Addr} {ty : FieldType} {n : Nat} {f g : Nat → Value} (V : own_Va Z h a ty n f) (q : ∀ j, j < n → f j = g j) : own_Va Z h a ty n g := by
  obtain ⟨c, A, r1, r2, r3, r4⟩ := V
  exact ⟨c, A, r1, r2, fun j hj => by rw [← q j hj]; exact r3 j hj, fun j hj => by rw [← q j hj]; exact r4 j hj⟩
theorem own_Va.wr {h' : Heap} {a : Addr} {ty : FieldType} {n i : Nat} {f : Nat → Value} {v : Value} (V : own_Va Z h a ty n f) (W : Wr h h' a i v) (hf : fits ty v = true) : own_Va Z h' a ty n (own_upd f i v) := by
  obtain ⟨c, A, r1, r2, r3, r4⟩ := V
  refine ⟨c.setSlot i v, A.same W, by rw [sz_set]; exact r1, r2, fun j hj => ?_, fun j hj => ?_⟩
  · have hj' : j < c.slots.size := by omega
    by_cases q : j = i
    · subst q; simp [Cell.setSlot, own_upd, hj']
    · have q' : ¬ i = j := fun z => q z.symm
      simp only [Cell.setSlot, own_upd, if_neg q, Array.getElem?_setIfInBounds, if_neg q']
      exact r3 j hj
  · by_cases q : j = i
    · simp only [own_upd, if_pos q]; exact hf
    · simp only [own_upd, if_neg q]; exact r4 j hj
theorem own_upd_eq {f : Nat → Value} {i : Nat} {v : Value} : own_upd f i v i = v := if_pos rfl
theorem own_upd_ne {f : Nat → Value} {i j : Nat} {v : Value} (q : j ≠ i) : own_upd f i v j = f j := if_neg q
/-- an array of ints (bytes) by the list of its values; of longs -/
def own_lsi (ws : List Int32) : Nat → Value := fun j => .int (ws.getD j 0)
def own_lsj (ws : List Int64) : Nat → Value := fun j => .long (ws.getD j 0)
theorem own_zeroi {ty : FieldType} (ws : List Int32) (n : Nat) (hw : ws = List.replicate n 0) (hd : defaultValue ty = .int 0 := by rfl) : ∀ j, j < n → (fun _ : Nat => defaultValue ty) j = own_lsi ws j := fun j hj => by
  show defaultValue ty = .int (ws.getD j 0)
  rw [hw, hd]; simp [List.getD, hj]
theorem own_zeroj {ty : FieldType} (ws : List Int64) (n : Nat) (hw : ws = List.replicate n 0) (hd : defaultValue ty = .long 0 := by rfl) : ∀ j, j < n → (fun _ : Nat => defaultValue ty) j = own_lsj ws j := fun j hj => by
  show defaultValue ty = .long (ws.getD j 0)
  rw [hw, hd]; simp [List.getD, hj]
theorem own_seti {ws ws' : List Int32} {i n : Nat} {v : Int32} (hs : ws.set i v = ws') (hi : i < ws.length) : ∀ j, j < n → own_upd (own_lsi ws) i (.int v) j = own_lsi ws' j := fun j hj => by
  subst hs
  by_cases q : j = i
  · subst q; simp [own_upd, own_lsi, List.getD, hi]
  · have q' : ¬ i = j := fun z => q z.symm
    simp [own_upd, own_lsi, List.getD, q, q']
theorem own_setj {ws ws' : List Int64} {i n : Nat} {v : Int64} (hs : ws.set i v = ws') (hi : i < ws.length) : ∀ j, j < n → own_upd (own_lsj ws) i (.long v) j = own_lsj ws' j := fun j hj => by
  subst hs
  by_cases q : j = i
  · subst q; simp [own_upd, own_lsj, List.getD, hi]
  · have q' : ¬ i = j := fun z => q z.symm
    simp [own_upd, own_lsj, List.getD, q, q']
theorem own_nat {j : Int32} {i : Nat} (hi : j.toInt = i) : j.toNatClampNeg = i := by simp [Int32.toNatClampNeg, hi]
theorem own_inb {c : Cell} {n i : Nat} {j : Int32} (hs : c.slots.size = n) (hi : j.toInt = i) (hin : i < n) : ¬ (j < 0 ∨ c.slots.size ≤ j.toNatClampNeg) := by
  rw [own_nat hi, hs, Int32.lt_iff_toInt_lt, hi, Int32.toInt_zero]; omega
theorem own_baload (M : own_Mx Z a0 K code own mx ret rm) (X : own_Sx n0 K T h cl sl) {a : Addr} {n i : Nat} {f : Nat → Value} {j : Int32} {v : Value} (V : own_Va Z h a .byte n f) (hi : j.toInt = i) (hin : i < n) (hv : f i = v) (hd : decode code pc = .ok (.baload, 1)) (hp : pc + 1 = pc') (hr : own_Fin n0 K P T pc' L (v :: S)) : own_Fin n0 K P T pc L (.int j :: .ref a :: S) := by
  obtain ⟨p, l, e, R, s, m, args, below, meth, c⟩ := K
  obtain ⟨hx, hby, hml, hown, hret, hlk, hZ, rfl, hw⟩ := M
  obtain ⟨locs, X, hN, eT, hn, hcl, hsl⟩ := X
  obtain ⟨s2, o2, st, r⟩ := hr
  obtain ⟨cc, A, hs, hlt, hg, -⟩ := V
  subst hp hv
  exact ⟨s2, o2, X.baloadBytes hx (j := j) (v := f i) (by rw [eT]; exact A.1) (State.isArrayOf_alike hZ.alike A.2.1) A.2.2 (own_inb hs hi hin) (by rw [own_nat hi]; exact hg i hin) (g := mkF m pc L (.int j :: .ref a :: S)) rfl rfl (hb hby hd) _ st, r⟩
theorem own_iaload (M : own_Mx Z a0 K code own mx ret rm) (X : own_Sx n0 K T h cl sl) {a : Addr} {n i : Nat} {f : Nat → Value} {j : Int32} {v : Value} (V : own_Va Z h a .int n f) (hi : j.toInt = i) (hin : i < n) (hv : f i = v) (hd : decode code pc = .ok (.iaload, 1)) (hp : pc + 1 = pc') (hr : own_Fin n0 K P T pc' L (v :: S)) : own_Fin n0 K P T pc L (.int j :: .ref a :: S) := by
  obtain ⟨p, l, e, R, s, m, args, below, meth, c⟩ := K
  obtain ⟨hx, hby, hml, hown, hret, hlk, hZ, rfl, hw⟩ := M
  obtain ⟨locs, X, hN, eT, hn, hcl, hsl⟩ := X
  obtain ⟨s2, o2, st, r⟩ := hr
  obtain ⟨cc, A, hs, hlt, hg, -⟩ := V
  subst hp hv
  exact ⟨s2, o2, X.iaload hx (j := j) (v := f i) (by rw [eT]; exact A.1) (State.isArrayOf_alike hZ.alike A.2.1) A.2.2 (own_inb hs hi hin) (by rw [own_nat hi]; exact hg i hin) (g := mkF m pc L (.int j :: .ref a :: S)) rfl rfl (hb hby hd) _ st, r⟩
theorem own_laload (M : own_Mx Z a0 K code own mx ret rm) (X : own_Sx n0 K T h cl sl) {a : Addr} {n i : Nat} {f : Nat → Value} {j : Int32} {v : Value} (V : own_Va Z h a .long n f) (hi : j.toInt = i) (hin : i < n) (hv : f i = v) (hd : decode code pc = .ok (.laload, 1)) (hp : pc + 1 = pc') (hr : own_Fin n0 K P T pc' L (v :: S)) : own_Fin n0 K P T pc L (.int j :: .ref a :: S) := by
  obtain ⟨p, l, e, R, s, m, args, below, meth, c⟩ := K
  obtain ⟨hx, hby, hml, hown, hret, hlk, hZ, rfl, hw⟩ := M
  obtain ⟨locs, X, hN, eT, hn, hcl, hsl⟩ := X
  obtain ⟨s2, o2, st, r⟩ := hr
  obtain ⟨cc, A, hs, hlt, hg, -⟩ := V
  subst hp hv
  exact ⟨s2, o2, X.laload hx (j := j) (v := f i) (by rw [eT]; exact A.1) (State.isArrayOf_alike hZ.alike A.2.1) A.2.2 (own_inb hs hi hin) (by rw [own_nat hi]; exact hg i hin) (g := mkF m pc L (.int j :: .ref a :: S)) rfl rfl (hb hby hd) _ st, r⟩
theorem own_bastore (M : own_Mx Z a0 K code own mx ret rm) (X : own_Sx n0 K T h cl sl) {a : Addr} {n i : Nat} {f : Nat → Value} {j : Int32} {x : Int32} (V : own_Va Z h a .byte n f) (hga : n0 ≤ a) (hi : j.toInt = i) (hin : i < n) (hd : decode code pc = .ok (.bastore, 1)) (hp : pc + 1 = pc') (hr : ∀ T' h', own_Sx n0 K T' h' cl sl → Keep h h' [a] → own_Va Z h' a .byte n (own_upd f i (.int x.toInt8.toInt32)) → own_Fin n0 K P T' pc' L S) : own_Fin n0 K P T pc L (.int x :: .int j :: .ref a :: S) := by
  obtain ⟨p, l, e, R, s, m, args, below, meth, c⟩ := K
  obtain ⟨hx, hby, hml, hown, hret, hlk, hZ, rfl, hw⟩ := M
  obtain ⟨locs, X, hN, eT, hn, hcl, hsl⟩ := X
  have V0 := V
  obtain ⟨cc, A, hs, hlt, hg, -⟩ := V
  obtain ⟨T1, h1, X1, e1, W1, st⟩ := stB X hx hZ eT A (j := j) (own_inb hs hi hin) (g := mkF m pc L (.int x :: .int j :: .ref a :: S)) rfl rfl (hb hby hd)
  rw [own_nat hi] at W1 X1
  subst hp
  obtain ⟨s2, o2, st2, r⟩ := hr T1 h1 ⟨_, X1, Fr.snoc X1 hN hga, e1, hn, hcl, hsl⟩ (Keep.of_wr W1) (V0.wr W1 (fits_nar_byte x))
  exact ⟨s2, o2, st _ st2, r⟩
theorem own_iastore (M : own_Mx Z a0 K code own mx ret rm) (X : own_Sx n0 K T h cl sl) {a : Addr} {n i : Nat} {f : Nat → Value} {j : Int32} {x : Int32} (V : own_Va Z h a .int n f) (hga : n0 ≤ a) (hi : j.toInt = i) (hin : i < n) (hd : decode code pc = .ok (.iastore, 1)) (hp : pc + 1 = pc') (hr : ∀ T' h', own_Sx n0 K T' h' cl sl → Keep h h' [a] → own_Va Z h' a .int n (own_upd f i (.int x)) → own_Fin n0 K P T' pc' L S) : own_Fin n0 K P T pc L (.int x :: .int j :: .ref a :: S) := by
  obtain ⟨p, l, e, R, s, m, args, below, meth, c⟩ := K
  obtain ⟨hx, hby, hml, hown, hret, hlk, hZ, rfl, hw⟩ := M
  obtain ⟨locs, X, hN, eT, hn, hcl, hsl⟩ := X
  have V0 := V
  obtain ⟨cc, A, hs, hlt, hg, -⟩ := V
  obtain ⟨T1, h1, X1, e1, W1, st⟩ := stI X hx hZ eT A (j := j) (own_inb hs hi hin) (g := mkF m pc L (.int x :: .int j :: .ref a :: S)) rfl rfl (hb hby hd)
  rw [own_nat hi] at W1 X1
  subst hp
  obtain ⟨s2, o2, st2, r⟩ := hr T1 h1 ⟨_, X1, Fr.snoc X1 hN hga, e1, hn, hcl, hsl⟩ (Keep.of_wr W1) (V0.wr W1 rfl)
  exact ⟨s2, o2, st _ st2, r⟩
theorem own_lastore (M : own_Mx Z a0 K code own mx ret rm) (X : own_Sx n0 K T h cl sl) {a : Addr} {n i : Nat} {f : Nat → Value} {j : Int32} {x : Int64} (V : own_Va Z h a .long n f) (hga : n0 ≤ a) (hi : j.toInt = i) (hin : i < n) (hd : decode code pc = .ok (.lastore, 1)) (hp : pc + 1 = pc') (hr : ∀ T' h', own_Sx n0 K T' h' cl sl → Keep h h' [a] → own_Va Z h' a .long n (own_upd f i (.long x)) → own_Fin n0 K P T' pc' L S) : own_Fin n0 K P T pc L (.long x :: .int j :: .ref a :: S) := by
  obtain ⟨p, l, e, R, s, m, args, below, meth, c⟩ := K
  obtain ⟨hx, hby, hml, hown, hret, hlk, hZ, rfl, hw⟩ := M
  obtain ⟨locs, X, hN, eT, hn, hcl, hsl⟩ := X
  have V0 := V
  obtain ⟨cc, A, hs, hlt, hg, -⟩ := V
  obtain ⟨T1, h1, X1, e1, W1, st⟩ := stJ X hx hZ eT A (j := j) (own_inb hs hi hin) (g := mkF m pc L (.long x :: .int j :: .ref a :: S)) rfl rfl (hb hby hd)
  rw [own_nat hi] at W1 X1
  subst hp
  obtain ⟨s2, o2, st2, r⟩ := hr T1 h1 ⟨_, X1, Fr.snoc X1 hN hga, e1, hn, hcl, hsl⟩ (Keep.of_wr W1) (V0.wr W1 rfl)
  exact ⟨s2, o2, st _ st2, r⟩
theorem own_arraylength (M : own_Mx Z a0 K code own mx ret rm) (X : own_Sx n0 K T h cl sl) {a : Addr} {ty : FieldType} {n : Nat} {f : Nat → Value} {z : Int32} (V : own_Va Z h a ty n f) (hz : z.toInt = n) (hd : decode code pc = .ok (.arraylength, 1)) (hp : pc + 1 = pc') (hr : own_Fin n0 K P T pc' L (.int z :: S)) : own_Fin n0 K P T pc L (.ref a :: S) := by
  obtain ⟨p, l, e, R, s, m, args, below, meth, c⟩ := K
  obtain ⟨hx, hby, hml, hown, hret, hlk, hZ, rfl, hw⟩ := M
  obtain ⟨locs, X, hN, eT, hn, hcl, hsl⟩ := X
  obtain ⟨s2, o2, st, r⟩ := hr
  obtain ⟨cc, A, hs, hlt, hg, -⟩ := V
  subst hp
  have e : cc.slots.size.toInt32 = z := by rw [hs]; exact Int32.toInt_inj.mp (by rw [len_toInt hlt, hz])
  exact ⟨s2, o2, X.arraylength hx (by rw [eT]; exact A.1) (State.isArrayOf_alike hZ.alike A.2.1) (g := mkF m pc L (.ref a :: S)) rfl rfl (hb hby hd) _ (by rw [e]; exact st), r⟩
theorem own_newarray (M : own_Mx Z a0 K code own mx ret rm) (X : own_Sx n0 K T h cl sl) {aty : ArrayType} {nn : Int32} {n : Nat} (cap : Nat) (w : (Jvm.Cond.arrayClass (newarray.typeOf aty)).before a0 Z = true) (hd : decode code pc = .ok (.newarray aty, 2)) (hp : pc + 2 = pc') (hnn : nn.toInt = n) (hcap : n ≤ cap) (hb8 : cap * 8 ≤ 536870912) (hc : cl + 1 ≤ rm.cells) (hs : sl + cap ≤ rm.slots)
    (hr : ∀ T' h' a, n0 ≤ a → h.size ≤ a → own_Sx n0 K T' h' (cl + 1) (sl + cap) → Ext h h' → own_Va Z h' a (newarray.typeOf aty) n (fun _ => defaultValue (newarray.typeOf aty)) → own_Fin n0 K P T' pc' L (.ref a :: S)) : own_Fin n0 K P T pc L (.int nn :: S) := by
  have hsz := X.size
  obtain ⟨p, l, e, R, s, m, args, below, meth, c⟩ := K
  obtain ⟨hx, hby, hml, hown, hret, hlk, hZ, rfl, hw⟩ := M
  obtain ⟨locs, X, hN, eT, hn, hcl, hsl⟩ := X
  obtain ⟨T1, h1, cA, X1, e1, E1, A1, st⟩ := newP X hx hZ w eT (g := mkF m pc L (.int nn :: S)) rfl (hb hby hd) rfl (by rw [Int32.lt_iff_toInt_lt, hnn, Int32.toInt_zero]; omega) (cap := cap) (by rw [own_nat hnn]; exact hcap) hb8 hc hs
  subst hp
  obtain ⟨s2, o2, st2, r⟩ := hr T1 h1 h.size hsz (Nat.le_refl _) ⟨_, X1, hN, e1, hn, hc, hs⟩ E1 ⟨_, A1, by rw [sz_new, own_nat hnn], by omega, fun j hj => by simp [newA, own_nat hnn, hj], fun j hj => by cases aty <;> rfl⟩
  exact ⟨s2, o2, st _ st2, r⟩
theorem own_new (M : own_Mx Z a0 K code own mx ret rm) (X : own_Sx n0 K T h cl sl) {C : String} {idx k : Nat} (w : (Jvm.Cond.classLink own idx C).before a0 Z = true) (wi : (Jvm.Cond.instantiable C k).before a0 Z = true) (wz : (Jvm.Cond.initialized C).before a0 Z = true) (hd : decode code pc = .ok (.new idx, 3)) (hp : pc + 3 = pc') (hc : cl + 1 ≤ rm.cells) (hs : sl + k ≤ rm.slots)
    (hr : ∀ T' h' a, n0 ≤ a → h.size ≤ a → own_Sx n0 K T' h' (cl + 1) (sl + k) → Ext h h' → Exa Z h' a C → (∀ {O nm d : String} {ty : FieldType}, Laid Z a0 C O nm d → parseFieldDescriptor d = some ty → Fld Z h' a O nm d (defaultValue ty)) → own_Fin n0 K P T' pc' L (.ref a :: S)) : own_Fin n0 K P T pc L S := by
  have hsz := X.size
  obtain ⟨p, l, e, R, s, m, args, below, meth, c⟩ := K
  obtain ⟨hx, hby, hml, hown, hret, hlk, hZ, rfl, hw⟩ := M
  obtain ⟨locs, X, hN, eT, hn, hcl, hsl⟩ := X
  obtain ⟨T1, h1, X1, e1, E1, A1, D1, -, st⟩ := newO X hx hZ hown w wi wz eT (g := mkF m pc L S) rfl (hb hby hd) hc hs
  subst hp
  obtain ⟨s2, o2, st2, r⟩ := hr T1 h1 h.size hsz (Nat.le_refl _) ⟨_, X1, hN, e1, hn, hc, hs⟩ E1 A1 D1
  exact ⟨s2, o2, st _ st2, r⟩
theorem own_getfield (M : own_Mx Z a0 K code own mx ret rm) (X : own_Sx n0 K T h cl sl) {O nm d : String} {idx : Nat} {a : Addr} {v : Value} (w : (Jvm.Cond.fieldLink own idx O nm d).before a0 Z = true) (F : Fld Z h a O nm d v) (hd : decode code pc = .ok (.getfield idx, 3)) (hp : pc + 3 = pc') (hr : ∀ T', own_Sx n0 K T' h cl sl → own_Fin n0 K P T' pc' L (v :: S)) : own_Fin n0 K P T pc L (.ref a :: S) := by
  obtain ⟨p, l, e, R, s, m, args, below, meth, c⟩ := K
  obtain ⟨hx, hby, hml, hown, hret, hlk, hZ, rfl, hw⟩ := M
  obtain ⟨locs, X, hN, eT, hn, hcl, hsl⟩ := X
  obtain ⟨T1, X1, e1, st⟩ := getF X hx hZ hown (host := "") (Or.inl w) Via.refl eT F (g := mkF m pc L (.ref a :: S)) rfl rfl (hb hby hd)
  subst hp
  obtain ⟨s2, o2, st2, r⟩ := hr T1 ⟨_, X1, hN, e1, hn, hcl, hsl⟩
  exact ⟨s2, o2, st _ st2, r⟩
theorem own_putfield (M : own_Mx Z a0 K code own mx ret rm) (X : own_Sx n0 K T h cl sl) {O nm d C : String} {idx k : Nat} {a : Addr} {v old : Value} {ty : FieldType} (w : (Jvm.Cond.fieldLink own idx O nm d).before a0 Z = true) (F : Fld Z h a O nm d old) (E : Exa Z h a C) (hL : (Jvm.Cond.lays C O nm d).before a0 Z = true ∨ ((Jvm.Cond.laysFinal C O nm d).before a0 Z = true ∧ own = O ∧ K.2.2.2.2.2.2.2.2.1.name = "<init>")) (wi : (Jvm.Cond.instantiable C k).before a0 Z = true) (hty : parseFieldDescriptor d = some ty) (hnv : narrow ty v = v) (hf : fits ty v = true) (hga : n0 ≤ a) (hd : decode code pc = .ok (.putfield idx, 3)) (hp : pc + 3 = pc')
    (hr : ∀ T' h', own_Sx n0 K T' h' cl sl → Wr h h' a (Jvm.RoadKit.slotOf Z O nm d) v → own_Fin n0 K P T' pc' L S) : own_Fin n0 K P T pc L (v :: .ref a :: S) := by
  obtain ⟨p, l, e, R, s, m, args, below, meth, c⟩ := K
  obtain ⟨hx, hby, hml, hown, hret, hlk, hZ, rfl, hw⟩ := M
  obtain ⟨locs, X, hN, eT, hn, hcl, hsl⟩ := X
  obtain ⟨T1, h1, X1, e1, W1, st⟩ := putF X hx hZ hown (host := "") (Or.inl w) Via.refl eT F E hL wi hty hnv hf (g := mkF m pc L (v :: .ref a :: S)) rfl rfl (hb hby hd)
  subst hp
  obtain ⟨s2, o2, st2, r⟩ := hr T1 h1 ⟨_, X1, Fr.snoc X1 hN hga, e1, hn, hcl, hsl⟩ W1
  exact ⟨s2, o2, st _ st2, r⟩
theorem own_initO (M : own_Mx Z a0 K code own mx ret rm) (X : own_Sx n0 K T h cl sl) {idx : Nat} {a : Addr} (w1 : (Jvm.Cond.methodLink own idx Lib.objectInit).before a0 Z = true) (w2 : (Jvm.Cond.instanceMethod Lib.objectInit).before a0 Z = true) (w3 : (Jvm.Cond.code Lib.objectInit ⟨#[0xb1]⟩ 1 none).before a0 Z = true) (hL : L.size = mx) (hd : decode code pc = .ok (.invokespecial idx, 3)) (hp : pc + 3 = pc') (hf : 1 ≤ rm.frames) (W : Nat) (hW : (S.map fun v => v.category).sum ≤ W) (hl : W + 12 ≤ rm.locals) (hr : ∀ T', own_Sx n0 K T' h cl sl → own_Fin n0 K P T' pc' L S) : own_Fin n0 K P T pc L (.ref a :: S) := by
  obtain ⟨p, l, e, R, s, m, args, below, meth, c⟩ := K
  obtain ⟨hx, hby, hml, hown, hret, hlk, hZ, rfl, hw⟩ := M
  obtain ⟨locs, X, hN, eT, hn, hcl, hsl⟩ := X
  obtain ⟨T1, X1, e1, st⟩ := initO X hx hZ hown w1 w2 w3 eT (g := mkF m pc L (.ref a :: S)) rfl (by rw [hml]; exact hL) rfl (hb hby hd) hf (W := W) (by show 2 * 0 + _ ≤ W; omega) hl
  subst hp
  obtain ⟨s2, o2, st2, r⟩ := hr T1 ⟨_, X1, hN, e1, hn, hcl, hsl⟩
  exact ⟨s2, o2, st _ st2, r⟩
theorem own_callN (M : own_Mx Z a0 K code own mx ret rm) (X : own_Sx n0 K T h cl sl) {y : MethodName} {ycode : ByteArray} {ymx : Nat} {yret : Option FieldType} {yrm : Room} {idx : Nat} {Q : Option Value → Heap → Prop} {ps : List FieldType} {yr : Option FieldType} {a : Addr} (argsL : List Value)
    (w1 : (Jvm.Cond.methodLink own idx y).before a0 Z = true) (w2 : (Jvm.Cond.instanceMethod y).before a0 Z = true) (w3 : (Jvm.Cond.initialized y.cls).before a0 Z = true) (w4 : (Jvm.Cond.code y ycode ymx yret).before a0 Z = true) (hy : y.cls ≠ "java/lang/invoke/MethodHandle" ∧ y.cls ≠ "java/lang/invoke/VarHandle") (hnm : y.name = "<init>") (hnr : yret = none)
    (hM : own_Met K.2.1 Z n0 y ycode ymx yret yrm (.ref a :: argsL).toArray h Q) (hL : L.size = mx) (hd : decode code pc = .ok (.invokespecial idx, 3)) (hp : pc + 3 = pc') (hpd : parseMethodDescriptor y.desc = some ⟨ps, yr⟩) (hlen : argsL.length = ps.length) (hS : S = argsL.reverse ++ .ref a :: rest)
    (W : Nat) (hW : (rest.map fun v => v.category).sum ≤ W) (hf : yrm.frames + 1 ≤ rm.frames) (hl : W + (ymx + 11) + yrm.locals ≤ rm.locals) (hc : cl + yrm.cells ≤ rm.cells) (hs : sl + yrm.slots ≤ rm.slots)
    (hr : ∀ T' h' v, own_Sx n0 K T' h' (cl + yrm.cells) (sl + yrm.slots) → Q v h' → own_Fin n0 K P T' pc' L (v.toList ++ rest)) : own_Fin n0 K P T pc L S := by
  obtain ⟨p, l, e, R, s, m, args, below, meth, c⟩ := K
  obtain ⟨hx, hby, hml, hown, hret, hlk, hZ, rfl, hw⟩ := M
  obtain ⟨locs, X, hN, eT, hn, hcl, hsl⟩ := X
  subst hnr
  obtain ⟨v, vm1, ⟨T1, L1, k1, n1⟩, -, X1, ⟨Lc, hQ, l1, y1, z1⟩, st⟩ := X.specialBack hx (y := y) hnm hown (mvT hZ w1) (mvT hZ w2) (mvT hZ w4) hy (backOf (W := W) (Q := fun v h L => Q v h ∧ Fr n0 L) (hM []) hZ w4 w3 hf hl) (g := mkF m pc L S) rfl (by rw [hml]; exact hL) (Steps.refl _) (a := a) (argsL := argsL) (rest := rest) (lenOf hpd hlen) hS (by show 2 * 0 + _ ≤ W; omega) (hb hby hd) (fun _ _ => ⟨rfl, eT, hc, hs⟩)
  dsimp only [Pt.U, Pt.locs, Pt.cells, Pt.slots] at X1 l1 y1 z1 st hQ
  subst l1 y1 z1 hp
  obtain ⟨s2, o2, st2, r⟩ := hr T1 _ v ⟨_, X1, Fr.app hN hQ.2, rfl, hn, hc, hs⟩ hQ.1
  exact ⟨s2, o2, st.trans st2, r⟩
theorem own_callV (M : own_Mx Z a0 K code own mx ret rm) (X : own_Sx n0 K T h cl sl) {y : MethodName} {ycode : ByteArray} {ymx : Nat} {yret : Option FieldType} {yrm : Room} {idx : Nat} {Q : Option Value → Heap → Prop} {ps : List FieldType} {yr : Option FieldType} {a : Addr} (argsL : List Value)
    (w1 : (Jvm.Cond.methodLink own idx y).before a0 Z = true) (w2 : (Jvm.Cond.instanceMethod y).before a0 Z = true) (w5 : (Jvm.Cond.declares y).before a0 Z = true) (w6 : (Jvm.Cond.selects y.cls y y).before a0 Z = true) (w3 : (Jvm.Cond.initialized y.cls).before a0 Z = true) (w4 : (Jvm.Cond.code y ycode ymx yret).before a0 Z = true) (hy : y.cls ≠ "java/lang/invoke/MethodHandle" ∧ y.cls ≠ "java/lang/invoke/VarHandle") (E : Exa Z h a y.cls)
    (hM : own_Met K.2.1 Z n0 y ycode ymx yret yrm (.ref a :: argsL).toArray h Q) (hL : L.size = mx) (hd : decode code pc = .ok (.invokevirtual idx, 3)) (hp : pc + 3 = pc') (hpd : parseMethodDescriptor y.desc = some ⟨ps, yr⟩) (hlen : argsL.length = ps.length) (hS : S = argsL.reverse ++ .ref a :: rest)
    (W : Nat) (hW : (rest.map fun v => v.category).sum ≤ W) (hf : yrm.frames + 1 ≤ rm.frames) (hl : W + (ymx + 11) + yrm.locals ≤ rm.locals) (hc : cl + yrm.cells ≤ rm.cells) (hs : sl + yrm.slots ≤ rm.slots)
    (hr : ∀ T' h' v, own_Sx n0 K T' h' (cl + yrm.cells) (sl + yrm.slots) → Q v h' → own_Fin n0 K P T' pc' L (v.toList ++ rest)) : own_Fin n0 K P T pc L S := by
  obtain ⟨p, l, e, R, s, m, args, below, meth, c⟩ := K
  obtain ⟨hx, hby, hml, hown, hret, hlk, hZ, rfl, hw⟩ := M
  obtain ⟨locs, X, hN, eT, hn, hcl, hsl⟩ := X
  obtain ⟨cq, kq, qa, qb, qc⟩ := isOf hZ eT E
  obtain ⟨v, vm1, ⟨T1, L1, k1, n1⟩, -, X1, ⟨Lc, hQ, l1, y1, z1⟩, st⟩ := X.virtualBack hx (y := y) (z := y) hown (mvT hZ w1) (mvT hZ w5) (notFace_of_selects (args := #[]) (mvT hZ w6)) (mvT hZ w6) (mvT hZ w2) hy (backOf (W := W) (Q := fun v h L => Q v h ∧ Fr n0 L) (hM []) hZ w4 w3 hf hl) qa qc (g := mkF m pc L S) rfl (by rw [hml]; exact hL) (Steps.refl _) (argsL := argsL) (rest := rest) (lenOf hpd hlen) hS (by show 2 * 0 + _ ≤ W; omega) (hb hby hd) (fun _ _ => ⟨rfl, eT, hc, hs⟩)
  dsimp only [Pt.U, Pt.locs, Pt.cells, Pt.slots] at X1 l1 y1 z1 st hQ
  subst l1 y1 z1 hp
  obtain ⟨s2, o2, st2, r⟩ := hr T1 _ v ⟨_, X1, Fr.app hN hQ.2, rfl, hn, hc, hs⟩ hQ.1
  exact ⟨s2, o2, st.trans st2, r⟩
theorem own_selPriv {s : State} {args : Array Value} {n : Nat} {y : MethodName} (hins : (Jvm.Cond.instantiable y.cls n).before args s = true) (hpriv : (Jvm.Cond.privateMethod y).before args s = true) (hinst : (Jvm.Cond.instanceMethod y).before args s = true) (hy : y.cls ≠ "java/lang/invoke/MethodHandle" ∧ y.cls ≠ "java/lang/invoke/VarHandle") : (Jvm.Cond.selects y.cls y y).before args s = true := by
  obtain ⟨c, k, hc, hk, -, hniab, -, -⟩ := Cond.instantiable_spec hins
  have hni : k.isInterface = false := (Bool.or_eq_false_iff.mp hniab).1
  obtain ⟨mk, methM, hnamed, hmethM, -, -⟩ := Cond.instanceMethod_spec hinst
  have hfound : s.methodFound? y.cls y.name y.desc = some mk := State.methodFound?_of_named hnamed hy
  have hcls : mk.cls = c := Option.some.inj ((findClass_of_methodNamed hnamed).symm.trans hc)
  have hsel : selectMethod {} s.vm c mk = .method mk := selectMethod_private hmethM (Cond.privateMethod_at hpriv mk methM hnamed hmethM)
  simp only [Cond.before, Cond.holds, Cond.value, hc, hfound, hnamed, hsel, hcls, hk]
  simp; exact hni
theorem own_callPriv (M : own_Mx Z a0 K code own mx ret rm) (X : own_Sx n0 K T h cl sl) {y : MethodName} {ycode : ByteArray} {ymx : Nat} {yret : Option FieldType} {yrm : Room} {idx : Nat} {Q : Option Value → Heap → Prop} {ps : List FieldType} {yr : Option FieldType} {a : Addr} (argsL : List Value)
    (w1 : (Jvm.Cond.methodLink own idx y).before a0 Z = true) (w2 : (Jvm.Cond.instanceMethod y).before a0 Z = true) (w5 : (Jvm.Cond.privateMethod y).before a0 Z = true) {kk : Nat} (w6 : (Jvm.Cond.instantiable y.cls kk).before a0 Z = true) (w3 : (Jvm.Cond.initialized y.cls).before a0 Z = true) (w4 : (Jvm.Cond.code y ycode ymx yret).before a0 Z = true) (hy : y.cls ≠ "java/lang/invoke/MethodHandle" ∧ y.cls ≠ "java/lang/invoke/VarHandle") (E : Exa Z h a y.cls)
    (hM : own_Met K.2.1 Z n0 y ycode ymx yret yrm (.ref a :: argsL).toArray h Q) (hL : L.size = mx) (hd : decode code pc = .ok (.invokevirtual idx, 3)) (hp : pc + 3 = pc') (hpd : parseMethodDescriptor y.desc = some ⟨ps, yr⟩) (hlen : argsL.length = ps.length) (hS : S = argsL.reverse ++ .ref a :: rest)
    (W : Nat) (hW : (rest.map fun v => v.category).sum ≤ W) (hf : yrm.frames + 1 ≤ rm.frames) (hl : W + (ymx + 11) + yrm.locals ≤ rm.locals) (hc : cl + yrm.cells ≤ rm.cells) (hs : sl + yrm.slots ≤ rm.slots)
    (hr : ∀ T' h' v, own_Sx n0 K T' h' (cl + yrm.cells) (sl + yrm.slots) → Q v h' → own_Fin n0 K P T' pc' L (v.toList ++ rest)) : own_Fin n0 K P T pc L S := by
  obtain ⟨p, l, e, R, s, m, args, below, meth, c⟩ := K
  obtain ⟨hx, hby, hml, hown, hret, hlk, hZ, rfl, hw⟩ := M
  obtain ⟨locs, X, hN, eT, hn, hcl, hsl⟩ := X
  obtain ⟨cq, qa, qb⟩ := E.cell
  obtain ⟨v, vm1, ⟨T1, L1, k1, n1⟩, -, X1, ⟨Lc, hQ, l1, y1, z1⟩, st⟩ := X.privateBack hx (y := y) hown (mvT hZ w1) (mvT hZ w2) (own_selPriv (mvT hZ w6) (mvP hZ w5) (mvT hZ w2) hy) (Cond.privateMethod_at (mvP hZ w5 (args := #[]))) (mvT hZ w4) hy (backOf (W := W) (Q := fun v h L => Q v h ∧ Fr n0 L) (hM []) hZ w4 w3 hf hl) (g := mkF m pc L S) rfl (by rw [hml]; exact hL) (Steps.refl _) (a := a) (by rw [eT]; exact qa) qb (argsL := argsL) (rest := rest) (lenOf hpd hlen) hS (by show 2 * 0 + _ ≤ W; omega) (hb hby hd) (fun _ _ => ⟨rfl, eT, hc, hs⟩)
  dsimp only [Pt.U, Pt.locs, Pt.cells, Pt.slots] at X1 l1 y1 z1 st hQ
  subst l1 y1 z1 hp
  obtain ⟨s2, o2, st2, r⟩ := hr T1 _ v ⟨_, X1, Fr.app hN hQ.2, rfl, hn, hc, hs⟩ hQ.1
  exact ⟨s2, o2, st.trans st2, r⟩
theorem own_callNP0 (M : own_Mx Z a0 K code own mx ret rm) (X : own_Sx n0 K T h cl sl) {y : MethodName} {ycode : ByteArray} {ymx : Nat} {yret : Option FieldType} {yrm : Room} {idx : Nat} {ps : List FieldType} {yr : Option FieldType} {a : Addr} (argsL : List Value)
    (w1 : (Jvm.Cond.methodLink own idx y).before a0 Z = true) (w2 : (Jvm.Cond.instanceMethod y).before a0 Z = true) (w3 : (Jvm.Cond.initialized y.cls).before a0 Z = true) (w4 : (Jvm.Cond.code y ycode ymx yret).before a0 Z = true) (hy : y.cls ≠ "java/lang/invoke/MethodHandle" ∧ y.cls ≠ "java/lang/invoke/VarHandle") (hnm : y.name = "<init>") (hnr : yret = none)
    (hM : own_Met K.2.1 Z n0 y ycode ymx yret yrm (.ref a :: argsL).toArray h (fun v h' => v = none ∧ h' = h)) (hL : L.size = mx) (hd : decode code pc = .ok (.invokespecial idx, 3)) (hp : pc + 3 = pc') (hpd : parseMethodDescriptor y.desc = some ⟨ps, yr⟩) (hlen : argsL.length = ps.length) (hS : S = argsL.reverse ++ .ref a :: rest)
    (W : Nat) (hW : (rest.map fun v => v.category).sum ≤ W) (hf : yrm.frames + 1 ≤ rm.frames) (hl : W + (ymx + 11) + yrm.locals ≤ rm.locals) (hc0 : yrm.cells = 0) (hs0 : yrm.slots = 0)
    (hr : ∀ T', own_Sx n0 K T' h cl sl → own_Fin n0 K P T' pc' L (rest)) : own_Fin n0 K P T pc L S := by
  have hcs : cl ≤ rm.cells ∧ sl ≤ rm.slots := by
    obtain ⟨p, l, e, R, s, m, args, below, meth, c⟩ := K
    obtain ⟨hx, hby, hml, hown, hret, hlk, hZ, rfl, hw⟩ := M
    obtain ⟨locs, X, hN, eT, hn, hcl, hsl⟩ := X
    exact ⟨hcl, hsl⟩
  refine own_callN M X argsL w1 w2 w3 w4 hy hnm hnr hM hL hd hp hpd hlen hS W hW hf hl (by rw [hc0]; exact hcs.1) (by rw [hs0]; exact hcs.2) ?_
  rintro T' h' v X' ⟨rfl, rfl⟩
  rw [hc0, hs0] at X'
  exact hr T' X'
theorem own_callVP (M : own_Mx Z a0 K code own mx ret rm) (X : own_Sx n0 K T h cl sl) {y : MethodName} {ycode : ByteArray} {ymx : Nat} {yret : Option FieldType} {yrm : Room} {idx : Nat} {ps : List FieldType} {yr : Option FieldType} {a : Addr} {w : Value} (argsL : List Value)
    (w1 : (Jvm.Cond.methodLink own idx y).before a0 Z = true) (w2 : (Jvm.Cond.instanceMethod y).before a0 Z = true) (w5 : (Jvm.Cond.declares y).before a0 Z = true) (w6 : (Jvm.Cond.selects y.cls y y).before a0 Z = true) (w3 : (Jvm.Cond.initialized y.cls).before a0 Z = true) (w4 : (Jvm.Cond.code y ycode ymx yret).before a0 Z = true) (hy : y.cls ≠ "java/lang/invoke/MethodHandle" ∧ y.cls ≠ "java/lang/invoke/VarHandle") (E : Exa Z h a y.cls)
    (hM : own_Met K.2.1 Z n0 y ycode ymx yret yrm (.ref a :: argsL).toArray h (fun v h' => v = some w ∧ h' = h)) (hL : L.size = mx) (hd : decode code pc = .ok (.invokevirtual idx, 3)) (hp : pc + 3 = pc') (hpd : parseMethodDescriptor y.desc = some ⟨ps, yr⟩) (hlen : argsL.length = ps.length) (hS : S = argsL.reverse ++ .ref a :: rest)
    (W : Nat) (hW : (rest.map fun v => v.category).sum ≤ W) (hf : yrm.frames + 1 ≤ rm.frames) (hl : W + (ymx + 11) + yrm.locals ≤ rm.locals) (hc0 : yrm.cells = 0) (hs0 : yrm.slots = 0)
    (hr : ∀ T', own_Sx n0 K T' h cl sl → own_Fin n0 K P T' pc' L (w :: rest)) : own_Fin n0 K P T pc L S := by
  have hcs : cl ≤ rm.cells ∧ sl ≤ rm.slots := by
    obtain ⟨p, l, e, R, s, m, args, below, meth, c⟩ := K
    obtain ⟨hx, hby, hml, hown, hret, hlk, hZ, rfl, hw⟩ := M
    obtain ⟨locs, X, hN, eT, hn, hcl, hsl⟩ := X
    exact ⟨hcl, hsl⟩
  refine own_callV M X argsL w1 w2 w5 w6 w3 w4 hy E hM hL hd hp hpd hlen hS W hW hf hl (by rw [hc0]; exact hcs.1) (by rw [hs0]; exact hcs.2) ?_
  rintro T' h' v X' ⟨rfl, rfl⟩
  rw [hc0, hs0] at X'
  exact hr T' X'
theorem own_callVP0 (M : own_Mx Z a0 K code own mx ret rm) (X : own_Sx n0 K T h cl sl) {y : MethodName} {ycode : ByteArray} {ymx : Nat} {yret : Option FieldType} {yrm : Room} {idx : Nat} {ps : List FieldType} {yr : Option FieldType} {a : Addr} (argsL : List Value)
    (w1 : (Jvm.Cond.methodLink own idx y).before a0 Z = true) (w2 : (Jvm.Cond.instanceMethod y).before a0 Z = true) (w5 : (Jvm.Cond.declares y).before a0 Z = true) (w6 : (Jvm.Cond.selects y.cls y y).before a0 Z = true) (w3 : (Jvm.Cond.initialized y.cls).before a0 Z = true) (w4 : (Jvm.Cond.code y ycode ymx yret).before a0 Z = true) (hy : y.cls ≠ "java/lang/invoke/MethodHandle" ∧ y.cls ≠ "java/lang/invoke/VarHandle") (E : Exa Z h a y.cls)
    (hM : own_Met K.2.1 Z n0 y ycode ymx yret yrm (.ref a :: argsL).toArray h (fun v h' => v = none ∧ h' = h)) (hL : L.size = mx) (hd : decode code pc = .ok (.invokevirtual idx, 3)) (hp : pc + 3 = pc') (hpd : parseMethodDescriptor y.desc = some ⟨ps, yr⟩) (hlen : argsL.length = ps.length) (hS : S = argsL.reverse ++ .ref a :: rest)
    (W : Nat) (hW : (rest.map fun v => v.category).sum ≤ W) (hf : yrm.frames + 1 ≤ rm.frames) (hl : W + (ymx + 11) + yrm.locals ≤ rm.locals) (hc0 : yrm.cells = 0) (hs0 : yrm.slots = 0)
    (hr : ∀ T', own_Sx n0 K T' h cl sl → own_Fin n0 K P T' pc' L (rest)) : own_Fin n0 K P T pc L S := by
  have hcs : cl ≤ rm.cells ∧ sl ≤ rm.slots := by
    obtain ⟨p, l, e, R, s, m, args, below, meth, c⟩ := K
    obtain ⟨hx, hby, hml, hown, hret, hlk, hZ, rfl, hw⟩ := M
    obtain ⟨locs, X, hN, eT, hn, hcl, hsl⟩ := X
    exact ⟨hcl, hsl⟩
  refine own_callV M X argsL w1 w2 w5 w6 w3 w4 hy E hM hL hd hp hpd hlen hS W hW hf hl (by rw [hc0]; exact hcs.1) (by rw [hs0]; exact hcs.2) ?_
  rintro T' h' v X' ⟨rfl, rfl⟩
  rw [hc0, hs0] at X'
  exact hr T' X'
theorem own_callPrivP (M : own_Mx Z a0 K code own mx ret rm) (X : own_Sx n0 K T h cl sl) {y : MethodName} {ycode : ByteArray} {ymx : Nat} {yret : Option FieldType} {yrm : Room} {idx : Nat} {ps : List FieldType} {yr : Option FieldType} {a : Addr} {w : Value} (argsL : List Value)
    (w1 : (Jvm.Cond.methodLink own idx y).before a0 Z = true) (w2 : (Jvm.Cond.instanceMethod y).before a0 Z = true) (w5 : (Jvm.Cond.privateMethod y).before a0 Z = true) {kk : Nat} (w6 : (Jvm.Cond.instantiable y.cls kk).before a0 Z = true) (w3 : (Jvm.Cond.initialized y.cls).before a0 Z = true) (w4 : (Jvm.Cond.code y ycode ymx yret).before a0 Z = true) (hy : y.cls ≠ "java/lang/invoke/MethodHandle" ∧ y.cls ≠ "java/lang/invoke/VarHandle") (E : Exa Z h a y.cls)
    (hM : own_Met K.2.1 Z n0 y ycode ymx yret yrm (.ref a :: argsL).toArray h (fun v h' => v = some w ∧ h' = h)) (hL : L.size = mx) (hd : decode code pc = .ok (.invokevirtual idx, 3)) (hp : pc + 3 = pc') (hpd : parseMethodDescriptor y.desc = some ⟨ps, yr⟩) (hlen : argsL.length = ps.length) (hS : S = argsL.reverse ++ .ref a :: rest)
    (W : Nat) (hW : (rest.map fun v => v.category).sum ≤ W) (hf : yrm.frames + 1 ≤ rm.frames) (hl : W + (ymx + 11) + yrm.locals ≤ rm.locals) (hc0 : yrm.cells = 0) (hs0 : yrm.slots = 0)
    (hr : ∀ T', own_Sx n0 K T' h cl sl → own_Fin n0 K P T' pc' L (w :: rest)) : own_Fin n0 K P T pc L S := by
  have hcs : cl ≤ rm.cells ∧ sl ≤ rm.slots := by
    obtain ⟨p, l, e, R, s, m, args, below, meth, c⟩ := K
    obtain ⟨hx, hby, hml, hown, hret, hlk, hZ, rfl, hw⟩ := M
    obtain ⟨locs, X, hN, eT, hn, hcl, hsl⟩ := X
    exact ⟨hcl, hsl⟩
  refine own_callPriv M X argsL w1 w2 w5 w6 w3 w4 hy E hM hL hd hp hpd hlen hS W hW hf hl (by rw [hc0]; exact hcs.1) (by rw [hs0]; exact hcs.2) ?_
  rintro T' h' v X' ⟨rfl, rfl⟩
  rw [hc0, hs0] at X'
  exact hr T' X'
theorem own_callPrivP0 (M : own_Mx Z a0 K code own mx ret rm) (X : own_Sx n0 K T h cl sl) {y : MethodName} {ycode : ByteArray} {ymx : Nat} {yret : Option FieldType} {yrm : Room} {idx : Nat} {ps : List FieldType} {yr : Option FieldType} {a : Addr} (argsL : List Value)
    (w1 : (Jvm.Cond.methodLink own idx y).before a0 Z = true) (w2 : (Jvm.Cond.instanceMethod y).before a0 Z = true) (w5 : (Jvm.Cond.privateMethod y).before a0 Z = true) {kk : Nat} (w6 : (Jvm.Cond.instantiable y.cls kk).before a0 Z = true) (w3 : (Jvm.Cond.initialized y.cls).before a0 Z = true) (w4 : (Jvm.Cond.code y ycode ymx yret).before a0 Z = true) (hy : y.cls ≠ "java/lang/invoke/MethodHandle" ∧ y.cls ≠ "java/lang/invoke/VarHandle") (E : Exa Z h a y.cls)
    (hM : own_Met K.2.1 Z n0 y ycode ymx yret yrm (.ref a :: argsL).toArray h (fun v h' => v = none ∧ h' = h)) (hL : L.size = mx) (hd : decode code pc = .ok (.invokevirtual idx, 3)) (hp : pc + 3 = pc') (hpd : parseMethodDescriptor y.desc = some ⟨ps, yr⟩) (hlen : argsL.length = ps.length) (hS : S = argsL.reverse ++ .ref a :: rest)
    (W : Nat) (hW : (rest.map fun v => v.category).sum ≤ W) (hf : yrm.frames + 1 ≤ rm.frames) (hl : W + (ymx + 11) + yrm.locals ≤ rm.locals) (hc0 : yrm.cells = 0) (hs0 : yrm.slots = 0)
    (hr : ∀ T', own_Sx n0 K T' h cl sl → own_Fin n0 K P T' pc' L (rest)) : own_Fin n0 K P T pc L S := by
  have hcs : cl ≤ rm.cells ∧ sl ≤ rm.slots := by
    obtain ⟨p, l, e, R, s, m, args, below, meth, c⟩ := K
    obtain ⟨hx, hby, hml, hown, hret, hlk, hZ, rfl, hw⟩ := M
    obtain ⟨locs, X, hN, eT, hn, hcl, hsl⟩ := X
    exact ⟨hcl, hsl⟩
  refine own_callPriv M X argsL w1 w2 w5 w6 w3 w4 hy E hM hL hd hp hpd hlen hS W hW hf hl (by rw [hc0]; exact hcs.1) (by rw [hs0]; exact hcs.2) ?_
  rintro T' h' v X' ⟨rfl, rfl⟩
  rw [hc0, hs0] at X'
  exact hr T' X'
theorem own_Va.arv {a : Addr} {ty : FieldType} {n : Nat} {f : Nat → Value} (V : own_Va Z h a ty n f) : ∃ k, ∀ dv, Arv Z h a k ty (Int32.ofNat n) ((List.range n).map f) dv := by
  obtain ⟨c, A, r1, r2, r3, r4⟩ := V
  have e : (Int32.ofNat n).toInt = n := Int32.toInt_ofNat_of_lt r2
  have g : ∀ dv j, j < n → ((List.range n).map f).getD j dv = f j := fun dv j hj => by simp [List.getD, hj]
  refine ⟨c.cls, fun dv => ⟨c, A, rfl, by rw [own_nat e]; exact r1, by rw [Int32.lt_iff_toInt_lt, e, Int32.toInt_zero]; omega, fun j hj => ?_, fun j hj => ?_⟩⟩
  · rw [g dv j (by omega)]; exact r3 j (by omega)
  · rw [g dv j (by omega)]; exact r4 j (by omega)
theorem own_Va.of_arv {a : Addr} {ty : FieldType} {n : Nat} {k : ClassId} {z : Int32} {vs : List Value} {dv : Value} {f : Nat → Value} (V : Arv Z h a k ty z vs dv) (hz : z.toInt = n) (hf : ∀ j, j < n → vs.getD j dv = f j) : own_Va Z h a ty n f := by
  obtain ⟨c, A, -, S, -, H, G⟩ := V
  rw [own_nat hz] at S
  exact ⟨c, A, S, by have := z.toInt_lt; omega, fun j hj => by rw [← hf j hj]; exact H j (by omega), fun j hj => by rw [← hf j hj]; exact G j (by omega)⟩
theorem own_cpl {α : Type} (f g : Nat → α) (na nb i j k t : Nat) (h4 : i + k ≤ na) (h5 : j + k ≤ nb) (ht : t < nb) (d : α) :
    (((List.range nb).map g).take j ++ (List.range k).map (fun q => ((List.range na).map f).getD (i + q) d) ++ ((List.range nb).map g).drop (j + k)).getD t d = if j ≤ t ∧ t < j + k then f (i + (t - j)) else g t := by
  have e1 : min j nb = j := by omega
  rw [List.getD_eq_getElem?_getD, List.getElem?_append, List.getElem?_append]
  simp only [List.length_append, List.length_take, List.length_map, List.length_range, e1]
  by_cases q1 : t < j
  · have n1 : ¬ (j ≤ t ∧ t < j + k) := by omega
    have n2 : t < j + k := by omega
    rw [if_neg n1, if_pos n2, if_pos q1, List.getElem?_take, if_pos q1]
    simp [ht]
  · by_cases q2 : t < j + k
    · have n1 : j ≤ t ∧ t < j + k := by omega
      have n2 : t - j < k := by omega
      have n3 : i + (t - j) < na := by omega
      rw [if_pos n1, if_pos q2, if_neg q1]
      simp [n2, n3]
    · have n1 : ¬ (j ≤ t ∧ t < j + k) := by omega
      have n3 : j + k + (t - (j + k)) = t := by omega
      rw [if_neg n1, if_neg q2, List.getElem?_drop, n3]
      simp [ht]
theorem own_arraycopy (M : own_Mx Z a0 K code own mx ret rm) (X : own_Sx n0 K T h cl sl) {idx : Nat} {a b : Addr} {ty : FieldType} {na nb i j k : Nat} {f g : Nat → Value} {sp dp nn : Int32}
    (w1 : (Jvm.Cond.methodLink own idx Jvm.Stand.acN).before a0 Z = true) (w2 : (Jvm.Cond.native Jvm.Stand.acN).before a0 Z = true) (w3 : (Jvm.Cond.static Jvm.Stand.acN).before a0 Z = true) (w4 : (Jvm.Cond.initialized "java/lang/System").before a0 Z = true)
    (A : own_Va Z h a ty na f) (B : own_Va Z h b ty nb g) (hty : refKind ty = false) (hsp : sp.toInt = i) (hdp : dp.toInt = j) (hnn : nn.toInt = k) (h4 : i + k ≤ na) (h5 : j + k ≤ nb) (hgb : n0 ≤ b) (hL : L.size = mx) (hd : decode code pc = .ok (.invokestatic idx, 3)) (hp : pc + 3 = pc')
    (hf : 1 ≤ rm.frames) (W : Nat) (hW : (S.map fun v => v.category).sum ≤ W) (hlo : W + 18 ≤ rm.locals)
    (hr : ∀ T' h', own_Sx n0 K T' h' cl sl → Keep h h' [b] → own_Va Z h' b ty nb (fun t => if j ≤ t ∧ t < j + k then f (i + (t - j)) else g t) → own_Fin n0 K P T' pc' L S) : own_Fin n0 K P T pc L (.int nn :: .int dp :: .ref b :: .int sp :: .ref a :: S) := by
  obtain ⟨p, l, e, R, s, m, args, below, meth, c⟩ := K
  obtain ⟨hx, hby, hml, hown, hret, hlk, hZ, rfl, hw⟩ := M
  obtain ⟨locs, X, hN, eT, hn, hcl, hsl⟩ := X
  have sa := A.small
  have sb := B.small
  obtain ⟨ka, A⟩ := A.arv
  obtain ⟨kb, B⟩ := B.arv
  have ea : (Int32.ofNat na).toInt = na := Int32.toInt_ofNat_of_lt sa
  have eb : (Int32.ofNat nb).toInt = nb := Int32.toInt_ofNat_of_lt sb
  have nneg : ∀ {x : Int32} {q : Nat}, x.toInt = q → ¬ x < 0 := fun {x q} z => by rw [Int32.lt_iff_toInt_lt, z, Int32.toInt_zero]; omega
  obtain ⟨T1, h1, L1, X1, e1, N1, K1, B1, st⟩ := cpA X hx hZ hown w1 w2 w3 w4 eT (A .null) (B .null) (Or.inl ⟨rfl, hty⟩) (nneg hsp) (nneg hdp) (nneg hnn) (by rw [own_nat hsp, own_nat hnn, own_nat ea]; exact h4) (by rw [own_nat hdp, own_nat hnn, own_nat eb]; exact h5) rfl (by simp [own_nat hdp, own_nat hnn]; exact h5) hN hgb (g := mkF m pc L (.int nn :: .int dp :: .ref b :: .int sp :: .ref a :: S)) rfl (by rw [hml]; exact hL) rfl (hb hby hd) hf (W := W) (by show 2 * 0 + _ ≤ W; omega) hlo
  subst hp
  obtain ⟨s2, o2, st2, r⟩ := hr T1 h1 ⟨_, X1, N1, e1, hn, hcl, hsl⟩ K1 (own_Va.of_arv B1 eb (fun t ht => by
    rw [own_nat hsp, own_nat hdp, own_nat hnn]
    exact own_cpl f g na nb i j k t h4 h5 ht .null))
  exact ⟨s2, o2, st _ st2, r⟩
end OwnLayer
theorem own_pd0 : parseMethodDescriptor "(I)J" = some ⟨[.int], some .long⟩ := by decide +kernel
theorem own_pd1 : parseMethodDescriptor "([BIII)J" = some ⟨[(.array .byte), .int, .int, .int], some .long⟩ := by decide +kernel
theorem own_pd2 : parseMethodDescriptor "(I)B" = some ⟨[.int], some .byte⟩ := by decide +kernel
theorem own_inc {i : Int32} {t : Nat} (h : i.toInt = t) (ht : t < 2147483647) : (i + (1 : Int32)).toInt = ((t + 1 : Nat) : Int) := by
  have e : (1 : Int32).toInt = 1 := by decide
  rw [Jvm.Kit.i32_add (by omega) (by omega), e, h]; omega
theorem own_b2 (y : Int8) : nar .byte y.toInt32 = y.toInt32 := by show (y.toInt32.toInt8).toInt32 = y.toInt32; rw [Int8.toInt8_toInt32]
theorem d1_0 : decode method_3_code 0 = .ok (.iload_n 0, 1) := by decide +kernel
theorem d1_1 : decode method_3_code 1 = .ok (.sipush 256, 3) := by decide +kernel
theorem d1_4 : decode method_3_code 4 = .ok (.iand, 1) := by decide +kernel
theorem d1_5 : decode method_3_code 5 = .ok (.ifCond .eq 15, 3) := by decide +kernel
theorem d1_8 : decode method_3_code 8 = .ok (.bipush 48, 2) := by decide +kernel
theorem d1_10 : decode method_3_code 10 = .ok (.iload_n 0, 1) := by decide +kernel
theorem d1_11 : decode method_3_code 11 = .ok (.bipush 9, 2) := by decide +kernel
theorem d1_13 : decode method_3_code 13 = .ok (.iushr, 1) := by decide +kernel
theorem d1_14 : decode method_3_code 14 = .ok (.bipush 10, 2) := by decide +kernel
theorem d1_16 : decode method_3_code 16 = .ok (.irem, 1) := by decide +kernel
theorem d1_17 : decode method_3_code 17 = .ok (.iadd, 1) := by decide +kernel
theorem d1_18 : decode method_3_code 18 = .ok (.i2b, 1) := by decide +kernel
theorem d1_19 : decode method_3_code 19 = .ok (.ireturn, 1) := by decide +kernel
theorem d1_20 : decode method_3_code 20 = .ok (.iload_n 0, 1) := by decide +kernel
theorem d1_21 : decode method_3_code 21 = .ok (.i2b, 1) := by decide +kernel
theorem d1_22 : decode method_3_code 22 = .ok (.ireturn, 1) := by decide +kernel
def F1 (x0 : Int32) : Int32 := (if (x0 &&& (256 : Int32)) = (0 : Int32) then (x0.toInt8.toInt32) else (((48 : Int32) + (((x0.toUInt32 >>> ((9 : Int32) &&& 31).toUInt32).toInt32) % (10 : Int32))).toInt8.toInt32))
theorem own_pn1 : plainName "com/example/tickwire/tickwire/core/WholeNumberParsePinLaw" = true := by first | (simp [plainName, overriddenIn]; done) | decide +kernel
set_option maxRecDepth 65536 in
set_option maxHeartbeats 40000000 in
theorem met_1 (l : Launch) (Z : State) (a0 : Array Value) (hw : ∀ d ∈ tables_1, d.before a0 Z = true) (h0 : Heap) (n0 : Nat) (hn : n0 ≤ h0.size) (x0 : Int32) : own_Met l Z n0 (⟨"com/example/tickwire/tickwire/core/WholeNumberParsePinLaw", "draw", "(I)B"⟩ : MethodName) method_3_code 1 (some .byte) ({ frames := 0, cells := 0, slots := 0, locals := 0 } : Room) #[(.int x0)] h0 (fun v h => v = some (.int (F1 x0)) ∧ h = h0) := by
  refine own_enter (L := #[.val (.int x0)]) (plainFor_of_name own_pn1) hw hn (fun m => by first | (simp [entryFrame, mkF, argsToLocals, Value.category]; done) | rfl) (fun K T hK M X => ?_)
  refine own_iloadN M X d1_0 rfl rfl ?_
  refine own_sipush M X (v := (256 : Int32)) d1_1 rfl rfl ?_
  refine own_iand M X d1_4 rfl ?_
  refine own_if_eq M X d1_5 (by decide) rfl rfl (fun q1 => ?_) (fun q1 => ?_)
  · skip
    refine own_iloadN M X d1_20 rfl rfl ?_
    refine own_i2b M X d1_21 rfl ?_
    exact own_retN M X (z' := (x0.toInt8.toInt32)) (by simp) d1_22 (own_b2 _) ⟨by rw [F1, if_pos q1], rfl⟩
  · skip
    refine own_bipush M X (v := (48 : Int32)) d1_8 rfl rfl ?_
    refine own_iloadN M X d1_10 rfl rfl ?_
    refine own_bipush M X (v := (9 : Int32)) d1_11 rfl rfl ?_
    refine own_iushr M X d1_13 rfl ?_
    refine own_bipush M X (v := (10 : Int32)) d1_14 rfl rfl ?_
    refine own_irem M X d1_16 (by decide) rfl ?_
    refine own_iadd M X d1_17 rfl ?_
    refine own_i2b M X d1_18 rfl ?_
    exact own_retN M X (z' := (((48 : Int32) + (((x0.toUInt32 >>> ((9 : Int32) &&& 31).toUInt32).toInt32) % (10 : Int32))).toInt8.toInt32)) (by simp) d1_19 (own_b2 _) ⟨by rw [F1, if_neg q1], rfl⟩
theorem d5_0 : decode method_4_code 0 = .ok (.iload_n 0, 1) := by decide +kernel
theorem d5_1 : decode method_4_code 1 = .ok (.ifCond .ne 5, 3) := by decide +kernel
theorem d5_4 : decode method_4_code 4 = .ok (.lconst 1, 1) := by decide +kernel
theorem d5_5 : decode method_4_code 5 = .ok (.lreturn, 1) := by decide +kernel
theorem d5_6 : decode method_4_code 6 = .ok (.iload_n 0, 1) := by decide +kernel
theorem d5_7 : decode method_4_code 7 = .ok (.iconst 1, 1) := by decide +kernel
theorem d5_8 : decode method_4_code 8 = .ok (.if_icmp .ne 7, 3) := by decide +kernel
theorem d5_11 : decode method_4_code 11 = .ok (.ldc2_w 23, 3) := by decide +kernel
theorem d5_14 : decode method_4_code 14 = .ok (.lreturn, 1) := by decide +kernel
theorem d5_15 : decode method_4_code 15 = .ok (.iload_n 0, 1) := by decide +kernel
theorem d5_16 : decode method_4_code 16 = .ok (.iconst 2, 1) := by decide +kernel
theorem d5_17 : decode method_4_code 17 = .ok (.if_icmp .ne 7, 3) := by decide +kernel
theorem d5_20 : decode method_4_code 20 = .ok (.ldc2_w 25, 3) := by decide +kernel
theorem d5_23 : decode method_4_code 23 = .ok (.lreturn, 1) := by decide +kernel
theorem d5_24 : decode method_4_code 24 = .ok (.ldc2_w 27, 3) := by decide +kernel
theorem d5_27 : decode method_4_code 27 = .ok (.lreturn, 1) := by decide +kernel
def F5 (x0 : Int32) : Int64 := (if x0 = (0 : Int32) then (1 : Int64) else (if x0 = (1 : Int32) then (10 : Int64) else (if x0 = (2 : Int32) then (100 : Int64) else (1000 : Int64))))
theorem own_pn5 : plainName "com/example/tickwire/tickwire/core/WholeNumberParsePinLaw" = true := by first | (simp [plainName, overriddenIn]; done) | decide +kernel
set_option maxRecDepth 65536 in
set_option maxHeartbeats 40000000 in
theorem met_5 (l : Launch) (Z : State) (a0 : Array Value) (hw : ∀ d ∈ tables_1, d.before a0 Z = true) (h0 : Heap) (n0 : Nat) (hn : n0 ≤ h0.size) (x0 : Int32) : own_Met l Z n0 (⟨"com/example/tickwire/tickwire/core/WholeNumberParsePinLaw", "pow10", "(I)J"⟩ : MethodName) method_4_code 1 (some .long) ({ frames := 0, cells := 0, slots := 0, locals := 0 } : Room) #[(.int x0)] h0 (fun v h => v = some (.long (F5 x0)) ∧ h = h0) := by
  refine own_enter (L := #[.val (.int x0)]) (plainFor_of_name own_pn5) hw hn (fun m => by first | (simp [entryFrame, mkF, argsToLocals, Value.category]; done) | rfl) (fun K T hK M X => ?_)
  refine own_iloadN M X d5_0 rfl rfl ?_
  refine own_if_ne M X d5_1 (by decide) rfl rfl (fun q1 => ?_) (fun q1 => ?_)
  · skip
    refine own_iloadN M X d5_6 rfl rfl ?_
    refine own_iconst M X (v := (1 : Int32)) d5_7 rfl rfl ?_
    refine own_icmp_ne M X d5_8 (by decide) rfl rfl (fun q2 => ?_) (fun q2 => ?_)
    · skip
      refine own_iloadN M X d5_15 rfl rfl ?_
      refine own_iconst M X (v := (2 : Int32)) d5_16 rfl rfl ?_
      refine own_icmp_ne M X d5_17 (by decide) rfl rfl (fun q3 => ?_) (fun q3 => ?_)
      · skip
        refine own_ldc2_w M X (hw _ (List.mem_of_getElem? (i := 24) rfl)) d5_24 rfl ?_
        exact own_retJ M X d5_27 ⟨by rw [F5, if_neg q1, if_neg q2, if_neg q3], rfl⟩
      · skip
        refine own_ldc2_w M X (hw _ (List.mem_of_getElem? (i := 23) rfl)) d5_20 rfl ?_
        exact own_retJ M X d5_23 ⟨by rw [F5, if_neg q1, if_neg q2, if_pos q3], rfl⟩
    · skip
      refine own_ldc2_w M X (hw _ (List.mem_of_getElem? (i := 21) rfl)) d5_11 rfl ?_
      exact own_retJ M X d5_14 ⟨by rw [F5, if_neg q1, if_pos q2], rfl⟩
  · skip
    refine own_lconst M X (v := (1 : Int64)) d5_4 rfl rfl ?_
    exact own_retJ M X d5_5 ⟨by rw [F5, if_pos q1], rfl⟩
theorem d4_0 : decode method_5_code 0 = .ok (.iload_n 1, 1) := by decide +kernel
theorem d4_1 : decode method_5_code 1 = .ok (.iload_n 2, 1) := by decide +kernel
theorem d4_2 : decode method_5_code 2 = .ok (.if_icmp .lt 8, 3) := by decide +kernel
theorem d4_5 : decode method_5_code 5 = .ok (.iload_n 1, 1) := by decide +kernel
theorem d4_6 : decode method_5_code 6 = .ok (.iload_n 3, 1) := by decide +kernel
theorem d4_7 : decode method_5_code 7 = .ok (.if_icmp .lt 5, 3) := by decide +kernel
theorem d4_10 : decode method_5_code 10 = .ok (.lconst 0, 1) := by decide +kernel
theorem d4_11 : decode method_5_code 11 = .ok (.lreturn, 1) := by decide +kernel
theorem d4_12 : decode method_5_code 12 = .ok (.aload_n 0, 1) := by decide +kernel
theorem d4_13 : decode method_5_code 13 = .ok (.iload_n 1, 1) := by decide +kernel
theorem d4_14 : decode method_5_code 14 = .ok (.baload, 1) := by decide +kernel
theorem d4_15 : decode method_5_code 15 = .ok (.istore 4, 2) := by decide +kernel
theorem d4_17 : decode method_5_code 17 = .ok (.iload 4, 2) := by decide +kernel
theorem d4_19 : decode method_5_code 19 = .ok (.bipush 48, 2) := by decide +kernel
theorem d4_21 : decode method_5_code 21 = .ok (.if_icmp .lt 10, 3) := by decide +kernel
theorem d4_24 : decode method_5_code 24 = .ok (.iload 4, 2) := by decide +kernel
theorem d4_26 : decode method_5_code 26 = .ok (.bipush 57, 2) := by decide +kernel
theorem d4_28 : decode method_5_code 28 = .ok (.if_icmp .le 7, 3) := by decide +kernel
theorem d4_31 : decode method_5_code 31 = .ok (.ldc2_w 29, 3) := by decide +kernel
theorem d4_34 : decode method_5_code 34 = .ok (.lreturn, 1) := by decide +kernel
theorem d4_35 : decode method_5_code 35 = .ok (.iload 4, 2) := by decide +kernel
theorem d4_37 : decode method_5_code 37 = .ok (.bipush 48, 2) := by decide +kernel
theorem d4_39 : decode method_5_code 39 = .ok (.isub, 1) := by decide +kernel
theorem d4_40 : decode method_5_code 40 = .ok (.i2l, 1) := by decide +kernel
theorem d4_41 : decode method_5_code 41 = .ok (.iload_n 3, 1) := by decide +kernel
theorem d4_42 : decode method_5_code 42 = .ok (.iconst 1, 1) := by decide +kernel
theorem d4_43 : decode method_5_code 43 = .ok (.isub, 1) := by decide +kernel
theorem d4_44 : decode method_5_code 44 = .ok (.iload_n 1, 1) := by decide +kernel
theorem d4_45 : decode method_5_code 45 = .ok (.isub, 1) := by decide +kernel
theorem d4_46 : decode method_5_code 46 = .ok (.invokestatic 31, 3) := by decide +kernel
theorem d4_49 : decode method_5_code 49 = .ok (.lmul, 1) := by decide +kernel
theorem d4_50 : decode method_5_code 50 = .ok (.lreturn, 1) := by decide +kernel
theorem own_pn4 : plainName "com/example/tickwire/tickwire/core/WholeNumberParsePinLaw" = true := by first | (simp [plainName, overriddenIn]; done) | decide +kernel
def F4 (ws : List Int32) (ii : Nat) (i1 : Int32) (i2 : Int32) (i3 : Int32) : Int64 := (if i1 < i2 then (0 : Int64) else (if i1 < i3 then (if (ws.getD ii 0) < (48 : Int32) then (-1 : Int64) else (if (57 : Int32) < (ws.getD ii 0) then (-1 : Int64) else ((((ws.getD ii 0) - (48 : Int32)).toInt64) * (F5 ((i3 - (1 : Int32)) - i1))))) else (0 : Int64)))
set_option maxRecDepth 65536 in
set_option maxHeartbeats 40000000 in
theorem met_4 (l : Launch) (Z : State) (a0 : Array Value) (hw : ∀ d ∈ tables_1, d.before a0 Z = true) (h0 : Heap) (n0 : Nat) (hn : n0 ≤ h0.size) (o0 : Addr) (i1 : Int32) (i2 : Int32) (i3 : Int32) (nn : Nat) (ws : List Int32) (ii : Nat) (V : own_Va Z h0 o0 .byte nn (own_lsi ws)) (gi : i1.toInt = ii) (gl : ii < nn) : own_Met l Z n0 (⟨"com/example/tickwire/tickwire/core/WholeNumberParsePinLaw", "term", "([BIII)J"⟩ : MethodName) method_5_code 5 (some .long) ({ frames := 1, cells := 0, slots := 0, locals := 14 } : Room) #[(.ref o0), (.int i1), (.int i2), (.int i3)] h0 (fun v h => v = some (.long (F4 ws ii i1 i2 i3)) ∧ h = h0) := by
  refine own_enter (L := #[.val (.ref o0), .val (.int i1), .val (.int i2), .val (.int i3), .unset]) (plainFor_of_name own_pn4) hw hn (fun m => by first | (simp [entryFrame, mkF, argsToLocals, Value.category]; done) | rfl) (fun K T hK M X => ?_)
  refine own_iloadN M X d4_0 rfl rfl ?_
  refine own_iloadN M X d4_1 rfl rfl ?_
  refine own_icmp_lt M X d4_2 (by decide) rfl rfl (fun q1 => ?_) (fun q1 => ?_)
  · skip
    refine own_lconst M X (v := (0 : Int64)) d4_10 rfl rfl ?_
    exact own_retJ M X d4_11 ⟨by rw [F4, if_pos q1], rfl⟩
  · skip
    refine own_iloadN M X d4_5 rfl rfl ?_
    refine own_iloadN M X d4_6 rfl rfl ?_
    refine own_icmp_lt M X d4_7 (by decide) rfl rfl (fun q2 => ?_) (fun q2 => ?_)
    · skip
      refine own_aloadN M X d4_12 rfl rfl rfl ?_
      refine own_iloadN M X d4_13 rfl rfl ?_
      refine own_baload M X V (i := ii) gi gl rfl d4_14 rfl ?_
      refine own_istore M X (L' := #[.val (.ref o0), .val (.int i1), .val (.int i2), .val (.int i3), .val (.int (ws.getD ii 0))]) d4_15 rfl rfl ?_
      refine own_iload M X d4_17 rfl rfl ?_
      refine own_bipush M X (v := (48 : Int32)) d4_19 rfl rfl ?_
      refine own_icmp_lt M X d4_21 (by decide) rfl rfl (fun q3 => ?_) (fun q3 => ?_)
      · skip
        refine own_ldc2_w M X (hw _ (List.mem_of_getElem? (i := 9) rfl)) d4_31 rfl ?_
        exact own_retJ M X d4_34 ⟨by rw [F4, if_neg q1, if_pos q2, if_pos q3], rfl⟩
      · skip
        refine own_iload M X d4_24 rfl rfl ?_
        refine own_bipush M X (v := (57 : Int32)) d4_26 rfl rfl ?_
        refine own_icmp_le M X d4_28 (by decide) rfl rfl (fun q4 => ?_) (fun q4 => ?_)
        · skip
          refine own_iload M X d4_35 rfl rfl ?_
          refine own_bipush M X (v := (48 : Int32)) d4_37 rfl rfl ?_
          refine own_isub M X d4_39 rfl ?_
          refine own_i2l M X d4_40 rfl ?_
          refine own_iloadN M X d4_41 rfl rfl ?_
          refine own_iconst M X (v := (1 : Int32)) d4_42 rfl rfl ?_
          refine own_isub M X d4_43 rfl ?_
          refine own_iloadN M X d4_44 rfl rfl ?_
          refine own_isub M X d4_45 rfl ?_
          refine own_callP M X (yrm := ({ frames := 0, cells := 0, slots := 0, locals := 0 } : Room)) [(.int ((i3 - (1 : Int32)) - i1))] (hw _ (List.mem_of_getElem? (i := 18) rfl)) (hw _ (List.mem_of_getElem? (i := 19) rfl)) (hw _ (List.mem_of_getElem? (i := 3) rfl)) (hw _ (List.mem_of_getElem? (i := 20) rfl)) (by decide) (met_5 _ Z a0 hw h0 n0 X.size ((i3 - (1 : Int32)) - i1)) rfl d4_46 rfl own_pd0 rfl rfl 2 (Nat.le_of_eq rfl) (by decide) (by decide) rfl rfl ?_
          intro T5 X6
          refine own_lmul M X6 d4_49 rfl ?_
          exact own_retJ M X6 d4_50 ⟨by rw [F4, if_neg q1, if_pos q2, if_neg q3, if_neg q4], rfl⟩
        · skip
          refine own_ldc2_w M X (hw _ (List.mem_of_getElem? (i := 9) rfl)) d4_31 rfl ?_
          exact own_retJ M X d4_34 ⟨by rw [F4, if_neg q1, if_pos q2, if_neg q3, if_pos q4], rfl⟩
    · skip
      refine own_lconst M X (v := (0 : Int64)) d4_10 rfl rfl ?_
      exact own_retJ M X d4_11 ⟨by rw [F4, if_neg q1, if_neg q2], rfl⟩
theorem d2_0 : decode method_6_code 0 = .ok (.iload_n 1, 1) := by decide +kernel
theorem d2_1 : decode method_6_code 1 = .ok (.iload_n 2, 1) := by decide +kernel
theorem d2_2 : decode method_6_code 2 = .ok (.if_icmp .lt 7, 3) := by decide +kernel
theorem d2_5 : decode method_6_code 5 = .ok (.ldc2_w 29, 3) := by decide +kernel
theorem d2_8 : decode method_6_code 8 = .ok (.lreturn, 1) := by decide +kernel
theorem d2_9 : decode method_6_code 9 = .ok (.iload_n 2, 1) := by decide +kernel
theorem d2_10 : decode method_6_code 10 = .ok (.iload_n 1, 1) := by decide +kernel
theorem d2_11 : decode method_6_code 11 = .ok (.isub, 1) := by decide +kernel
theorem d2_12 : decode method_6_code 12 = .ok (.iload_n 3, 1) := by decide +kernel
theorem d2_13 : decode method_6_code 13 = .ok (.if_icmp .le 7, 3) := by decide +kernel
theorem d2_16 : decode method_6_code 16 = .ok (.ldc2_w 29, 3) := by decide +kernel
theorem d2_19 : decode method_6_code 19 = .ok (.lreturn, 1) := by decide +kernel
theorem d2_20 : decode method_6_code 20 = .ok (.aload_n 0, 1) := by decide +kernel
theorem d2_21 : decode method_6_code 21 = .ok (.iconst 0, 1) := by decide +kernel
theorem d2_22 : decode method_6_code 22 = .ok (.iload_n 1, 1) := by decide +kernel
theorem d2_23 : decode method_6_code 23 = .ok (.iload_n 2, 1) := by decide +kernel
theorem d2_24 : decode method_6_code 24 = .ok (.invokestatic 35, 3) := by decide +kernel
theorem d2_27 : decode method_6_code 27 = .ok (.lstore 4, 2) := by decide +kernel
theorem d2_29 : decode method_6_code 29 = .ok (.aload_n 0, 1) := by decide +kernel
theorem d2_30 : decode method_6_code 30 = .ok (.iconst 1, 1) := by decide +kernel
theorem d2_31 : decode method_6_code 31 = .ok (.iload_n 1, 1) := by decide +kernel
theorem d2_32 : decode method_6_code 32 = .ok (.iload_n 2, 1) := by decide +kernel
theorem d2_33 : decode method_6_code 33 = .ok (.invokestatic 35, 3) := by decide +kernel
theorem d2_36 : decode method_6_code 36 = .ok (.lstore 6, 2) := by decide +kernel
theorem d2_38 : decode method_6_code 38 = .ok (.aload_n 0, 1) := by decide +kernel
theorem d2_39 : decode method_6_code 39 = .ok (.iconst 2, 1) := by decide +kernel
theorem d2_40 : decode method_6_code 40 = .ok (.iload_n 1, 1) := by decide +kernel
theorem d2_41 : decode method_6_code 41 = .ok (.iload_n 2, 1) := by decide +kernel
theorem d2_42 : decode method_6_code 42 = .ok (.invokestatic 35, 3) := by decide +kernel
theorem d2_45 : decode method_6_code 45 = .ok (.lstore 8, 2) := by decide +kernel
theorem d2_47 : decode method_6_code 47 = .ok (.aload_n 0, 1) := by decide +kernel
theorem d2_48 : decode method_6_code 48 = .ok (.iconst 3, 1) := by decide +kernel
theorem d2_49 : decode method_6_code 49 = .ok (.iload_n 1, 1) := by decide +kernel
theorem d2_50 : decode method_6_code 50 = .ok (.iload_n 2, 1) := by decide +kernel
theorem d2_51 : decode method_6_code 51 = .ok (.invokestatic 35, 3) := by decide +kernel
theorem d2_54 : decode method_6_code 54 = .ok (.lstore 10, 2) := by decide +kernel
theorem d2_56 : decode method_6_code 56 = .ok (.lload 4, 2) := by decide +kernel
theorem d2_58 : decode method_6_code 58 = .ok (.lconst 0, 1) := by decide +kernel
theorem d2_59 : decode method_6_code 59 = .ok (.lcmp, 1) := by decide +kernel
theorem d2_60 : decode method_6_code 60 = .ok (.ifCond .lt 24, 3) := by decide +kernel
theorem d2_63 : decode method_6_code 63 = .ok (.lload 6, 2) := by decide +kernel
theorem d2_65 : decode method_6_code 65 = .ok (.lconst 0, 1) := by decide +kernel
theorem d2_66 : decode method_6_code 66 = .ok (.lcmp, 1) := by decide +kernel
theorem d2_67 : decode method_6_code 67 = .ok (.ifCond .lt 17, 3) := by decide +kernel
theorem d2_70 : decode method_6_code 70 = .ok (.lload 8, 2) := by decide +kernel
theorem d2_72 : decode method_6_code 72 = .ok (.lconst 0, 1) := by decide +kernel
theorem d2_73 : decode method_6_code 73 = .ok (.lcmp, 1) := by decide +kernel
theorem d2_74 : decode method_6_code 74 = .ok (.ifCond .lt 10, 3) := by decide +kernel
theorem d2_77 : decode method_6_code 77 = .ok (.lload 10, 2) := by decide +kernel
theorem d2_79 : decode method_6_code 79 = .ok (.lconst 0, 1) := by decide +kernel
theorem d2_80 : decode method_6_code 80 = .ok (.lcmp, 1) := by decide +kernel
theorem d2_81 : decode method_6_code 81 = .ok (.ifCond .ge 7, 3) := by decide +kernel
theorem d2_84 : decode method_6_code 84 = .ok (.ldc2_w 29, 3) := by decide +kernel
theorem d2_87 : decode method_6_code 87 = .ok (.lreturn, 1) := by decide +kernel
theorem d2_88 : decode method_6_code 88 = .ok (.lload 4, 2) := by decide +kernel
theorem d2_90 : decode method_6_code 90 = .ok (.lload 6, 2) := by decide +kernel
theorem d2_92 : decode method_6_code 92 = .ok (.ladd, 1) := by decide +kernel
theorem d2_93 : decode method_6_code 93 = .ok (.lload 8, 2) := by decide +kernel
theorem d2_95 : decode method_6_code 95 = .ok (.ladd, 1) := by decide +kernel
theorem d2_96 : decode method_6_code 96 = .ok (.lload 10, 2) := by decide +kernel
theorem d2_98 : decode method_6_code 98 = .ok (.ladd, 1) := by decide +kernel
theorem d2_99 : decode method_6_code 99 = .ok (.lreturn, 1) := by decide +kernel
theorem own_pn2 : plainName "com/example/tickwire/tickwire/core/WholeNumberParsePinLaw" = true := by first | (simp [plainName, overriddenIn]; done) | decide +kernel
def F2 (ws : List Int32) (i1 : Int32) (i2 : Int32) (i3 : Int32) : Int64 := (if i1 < i2 then (if i3 < (i2 - i1) then (-1 : Int64) else (if (F4 ws 0 (0 : Int32) i1 i2) < (0 : Int64) then (-1 : Int64) else (if (F4 ws 1 (1 : Int32) i1 i2) < (0 : Int64) then (-1 : Int64) else (if (F4 ws 2 (2 : Int32) i1 i2) < (0 : Int64) then (-1 : Int64) else (if (F4 ws 3 (3 : Int32) i1 i2) < (0 : Int64) then (-1 : Int64) else ((((F4 ws 0 (0 : Int32) i1 i2) + (F4 ws 1 (1 : Int32) i1 i2)) + (F4 ws 2 (2 : Int32) i1 i2)) + (F4 ws 3 (3 : Int32) i1 i2))))))) else (-1 : Int64))
set_option maxRecDepth 65536 in
set_option maxHeartbeats 40000000 in
theorem met_2 (l : Launch) (Z : State) (a0 : Array Value) (hw : ∀ d ∈ tables_1, d.before a0 Z = true) (h0 : Heap) (n0 : Nat) (hn : n0 ≤ h0.size) (o0 : Addr) (i1 : Int32) (i2 : Int32) (i3 : Int32) (ws : List Int32) (V : own_Va Z h0 o0 .byte 4 (own_lsi ws)) : own_Met l Z n0 (⟨"com/example/tickwire/tickwire/core/WholeNumberParsePinLaw", "reference", "([BIII)J"⟩ : MethodName) method_6_code 12 (some .long) ({ frames := 2, cells := 0, slots := 0, locals := 30 } : Room) #[(.ref o0), (.int i1), (.int i2), (.int i3)] h0 (fun v h => v = some (.long (F2 ws i1 i2 i3)) ∧ h = h0) := by
  refine own_enter (L := #[.val (.ref o0), .val (.int i1), .val (.int i2), .val (.int i3), .unset, .unset, .unset, .unset, .unset, .unset, .unset, .unset]) (plainFor_of_name own_pn2) hw hn (fun m => by first | (simp [entryFrame, mkF, argsToLocals, Value.category]; done) | rfl) (fun K T hK M X => ?_)
  refine own_iloadN M X d2_0 rfl rfl ?_
  refine own_iloadN M X d2_1 rfl rfl ?_
  refine own_icmp_lt M X d2_2 (by decide) rfl rfl (fun q1 => ?_) (fun q1 => ?_)
  · skip
    refine own_iloadN M X d2_9 rfl rfl ?_
    refine own_iloadN M X d2_10 rfl rfl ?_
    refine own_isub M X d2_11 rfl ?_
    refine own_iloadN M X d2_12 rfl rfl ?_
    refine own_icmp_le M X d2_13 (by decide) rfl rfl (fun q2 => ?_) (fun q2 => ?_)
    · skip
      refine own_aloadN M X d2_20 rfl rfl rfl ?_
      refine own_iconst M X (v := (0 : Int32)) d2_21 rfl rfl ?_
      refine own_iloadN M X d2_22 rfl rfl ?_
      refine own_iloadN M X d2_23 rfl rfl ?_
      refine own_callP M X (yrm := ({ frames := 1, cells := 0, slots := 0, locals := 14 } : Room)) [(.ref o0), (.int (0 : Int32)), (.int i1), (.int i2)] (hw _ (List.mem_of_getElem? (i := 15) rfl)) (hw _ (List.mem_of_getElem? (i := 16) rfl)) (hw _ (List.mem_of_getElem? (i := 3) rfl)) (hw _ (List.mem_of_getElem? (i := 17) rfl)) (by decide) (met_4 _ Z a0 hw h0 n0 X.size o0 (0 : Int32) i1 i2 4 ws 0 V (by decide) (by decide)) rfl d2_24 rfl own_pd1 rfl rfl 0 (Nat.le_of_eq rfl) (by decide) (by decide) rfl rfl ?_
      intro T3 X4
      refine own_lstore M X4 (L' := #[.val (.ref o0), .val (.int i1), .val (.int i2), .val (.int i3), .val (.long (F4 ws 0 (0 : Int32) i1 i2)), .second, .unset, .unset, .unset, .unset, .unset, .unset]) d2_27 rfl rfl ?_
      refine own_aloadN M X4 d2_29 rfl rfl rfl ?_
      refine own_iconst M X4 (v := (1 : Int32)) d2_30 rfl rfl ?_
      refine own_iloadN M X4 d2_31 rfl rfl ?_
      refine own_iloadN M X4 d2_32 rfl rfl ?_
      refine own_callP M X4 (yrm := ({ frames := 1, cells := 0, slots := 0, locals := 14 } : Room)) [(.ref o0), (.int (1 : Int32)), (.int i1), (.int i2)] (hw _ (List.mem_of_getElem? (i := 15) rfl)) (hw _ (List.mem_of_getElem? (i := 16) rfl)) (hw _ (List.mem_of_getElem? (i := 3) rfl)) (hw _ (List.mem_of_getElem? (i := 17) rfl)) (by decide) (met_4 _ Z a0 hw h0 n0 X4.size o0 (1 : Int32) i1 i2 4 ws 1 V (by decide) (by decide)) rfl d2_33 rfl own_pd1 rfl rfl 0 (Nat.le_of_eq rfl) (by decide) (by decide) rfl rfl ?_
      intro T5 X6
      refine own_lstore M X6 (L' := #[.val (.ref o0), .val (.int i1), .val (.int i2), .val (.int i3), .val (.long (F4 ws 0 (0 : Int32) i1 i2)), .second, .val (.long (F4 ws 1 (1 : Int32) i1 i2)), .second, .unset, .unset, .unset, .unset]) d2_36 rfl rfl ?_
      refine own_aloadN M X6 d2_38 rfl rfl rfl ?_
      refine own_iconst M X6 (v := (2 : Int32)) d2_39 rfl rfl ?_
      refine own_iloadN M X6 d2_40 rfl rfl ?_
      refine own_iloadN M X6 d2_41 rfl rfl ?_
      refine own_callP M X6 (yrm := ({ frames := 1, cells := 0, slots := 0, locals := 14 } : Room)) [(.ref o0), (.int (2 : Int32)), (.int i1), (.int i2)] (hw _ (List.mem_of_getElem? (i := 15) rfl)) (hw _ (List.mem_of_getElem? (i := 16) rfl)) (hw _ (List.mem_of_getElem? (i := 3) rfl)) (hw _ (List.mem_of_getElem? (i := 17) rfl)) (by decide) (met_4 _ Z a0 hw h0 n0 X6.size o0 (2 : Int32) i1 i2 4 ws 2 V (by decide) (by decide)) rfl d2_42 rfl own_pd1 rfl rfl 0 (Nat.le_of_eq rfl) (by decide) (by decide) rfl rfl ?_
      intro T7 X8
      refine own_lstore M X8 (L' := #[.val (.ref o0), .val (.int i1), .val (.int i2), .val (.int i3), .val (.long (F4 ws 0 (0 : Int32) i1 i2)), .second, .val (.long (F4 ws 1 (1 : Int32) i1 i2)), .second, .val (.long (F4 ws 2 (2 : Int32) i1 i2)), .second, .unset, .unset]) d2_45 rfl rfl ?_
      refine own_aloadN M X8 d2_47 rfl rfl rfl ?_
      refine own_iconst M X8 (v := (3 : Int32)) d2_48 rfl rfl ?_
      refine own_iloadN M X8 d2_49 rfl rfl ?_
      refine own_iloadN M X8 d2_50 rfl rfl ?_
      refine own_callP M X8 (yrm := ({ frames := 1, cells := 0, slots := 0, locals := 14 } : Room)) [(.ref o0), (.int (3 : Int32)), (.int i1), (.int i2)] (hw _ (List.mem_of_getElem? (i := 15) rfl)) (hw _ (List.mem_of_getElem? (i := 16) rfl)) (hw _ (List.mem_of_getElem? (i := 3) rfl)) (hw _ (List.mem_of_getElem? (i := 17) rfl)) (by decide) (met_4 _ Z a0 hw h0 n0 X8.size o0 (3 : Int32) i1 i2 4 ws 3 V (by decide) (by decide)) rfl d2_51 rfl own_pd1 rfl rfl 0 (Nat.le_of_eq rfl) (by decide) (by decide) rfl rfl ?_
      intro T9 X10
      refine own_lstore M X10 (L' := #[.val (.ref o0), .val (.int i1), .val (.int i2), .val (.int i3), .val (.long (F4 ws 0 (0 : Int32) i1 i2)), .second, .val (.long (F4 ws 1 (1 : Int32) i1 i2)), .second, .val (.long (F4 ws 2 (2 : Int32) i1 i2)), .second, .val (.long (F4 ws 3 (3 : Int32) i1 i2)), .second]) d2_54 rfl rfl ?_
      refine own_lload M X10 d2_56 rfl rfl ?_
      refine own_lconst M X10 (v := (0 : Int64)) d2_58 rfl rfl ?_
      refine own_lcmp_lt M X10 d2_59 rfl d2_60 (by decide) rfl rfl (fun q11 => ?_) (fun q11 => ?_)
      · skip
        refine own_ldc2_w M X10 (hw _ (List.mem_of_getElem? (i := 9) rfl)) d2_84 rfl ?_
        exact own_retJ M X10 d2_87 ⟨by rw [F2, if_pos q1, if_neg q2, if_pos q11], rfl⟩
      · skip
        refine own_lload M X10 d2_63 rfl rfl ?_
        refine own_lconst M X10 (v := (0 : Int64)) d2_65 rfl rfl ?_
        refine own_lcmp_lt M X10 d2_66 rfl d2_67 (by decide) rfl rfl (fun q12 => ?_) (fun q12 => ?_)
        · skip
          refine own_ldc2_w M X10 (hw _ (List.mem_of_getElem? (i := 9) rfl)) d2_84 rfl ?_
          exact own_retJ M X10 d2_87 ⟨by rw [F2, if_pos q1, if_neg q2, if_neg q11, if_pos q12], rfl⟩
        · skip
          refine own_lload M X10 d2_70 rfl rfl ?_
          refine own_lconst M X10 (v := (0 : Int64)) d2_72 rfl rfl ?_
          refine own_lcmp_lt M X10 d2_73 rfl d2_74 (by decide) rfl rfl (fun q13 => ?_) (fun q13 => ?_)
          · skip
            refine own_ldc2_w M X10 (hw _ (List.mem_of_getElem? (i := 9) rfl)) d2_84 rfl ?_
            exact own_retJ M X10 d2_87 ⟨by rw [F2, if_pos q1, if_neg q2, if_neg q11, if_neg q12, if_pos q13], rfl⟩
          · skip
            refine own_lload M X10 d2_77 rfl rfl ?_
            refine own_lconst M X10 (v := (0 : Int64)) d2_79 rfl rfl ?_
            refine own_lcmp_ge M X10 d2_80 rfl d2_81 (by decide) rfl rfl (fun q14 => ?_) (fun q14 => ?_)
            · skip
              refine own_lload M X10 d2_88 rfl rfl ?_
              refine own_lload M X10 d2_90 rfl rfl ?_
              refine own_ladd M X10 d2_92 rfl ?_
              refine own_lload M X10 d2_93 rfl rfl ?_
              refine own_ladd M X10 d2_95 rfl ?_
              refine own_lload M X10 d2_96 rfl rfl ?_
              refine own_ladd M X10 d2_98 rfl ?_
              exact own_retJ M X10 d2_99 ⟨by rw [F2, if_pos q1, if_neg q2, if_neg q11, if_neg q12, if_neg q13, if_neg q14], rfl⟩
            · skip
              refine own_ldc2_w M X10 (hw _ (List.mem_of_getElem? (i := 9) rfl)) d2_84 rfl ?_
              exact own_retJ M X10 d2_87 ⟨by rw [F2, if_pos q1, if_neg q2, if_neg q11, if_neg q12, if_neg q13, if_pos q14], rfl⟩
    · skip
      refine own_ldc2_w M X (hw _ (List.mem_of_getElem? (i := 9) rfl)) d2_16 rfl ?_
      exact own_retJ M X d2_19 ⟨by rw [F2, if_pos q1, if_pos q2], rfl⟩
  · skip
    refine own_ldc2_w M X (hw _ (List.mem_of_getElem? (i := 9) rfl)) d2_5 rfl ?_
    exact own_retJ M X d2_8 ⟨by rw [F2, if_neg q1], rfl⟩
def own_ps (ws : List Int32) : Nat → Nat → Int64 → Int64
  | 0, _, v => v
  | k + 1, t, v => if ((ws.getD t 0) - (48 : Int32)) < (0 : Int32) then (-1 : Int64) else if (9 : Int32) < ((ws.getD t 0) - (48 : Int32)) then (-1 : Int64) else own_ps ws k (t + 1) ((v * (10 : Int64)) + (((ws.getD t 0) - (48 : Int32)).toInt64))
def F3 (ws : List Int32) (i1 i2 i3 : Int32) : Int64 := if i1 < i2 then (if i3 < (i2 - i1) then (-1 : Int64) else own_ps ws (i2.toInt - i1.toInt).toNat i1.toInt.toNat (0 : Int64)) else (-1 : Int64)
theorem d3_0 : decode prog_47_method_3_code 0 = .ok (.iload_n 1, 1) := by decide +kernel
theorem d3_1 : decode prog_47_method_3_code 1 = .ok (.iload_n 2, 1) := by decide +kernel
theorem d3_2 : decode prog_47_method_3_code 2 = .ok (.if_icmp .ge 10, 3) := by decide +kernel
theorem d3_5 : decode prog_47_method_3_code 5 = .ok (.iload_n 2, 1) := by decide +kernel
theorem d3_6 : decode prog_47_method_3_code 6 = .ok (.iload_n 1, 1) := by decide +kernel
theorem d3_7 : decode prog_47_method_3_code 7 = .ok (.isub, 1) := by decide +kernel
theorem d3_8 : decode prog_47_method_3_code 8 = .ok (.iload_n 3, 1) := by decide +kernel
theorem d3_9 : decode prog_47_method_3_code 9 = .ok (.if_icmp .le 7, 3) := by decide +kernel
theorem d3_12 : decode prog_47_method_3_code 12 = .ok (.ldc2_w 7, 3) := by decide +kernel
theorem d3_15 : decode prog_47_method_3_code 15 = .ok (.lreturn, 1) := by decide +kernel
theorem d3_16 : decode prog_47_method_3_code 16 = .ok (.lconst 0, 1) := by decide +kernel
theorem d3_17 : decode prog_47_method_3_code 17 = .ok (.lstore 4, 2) := by decide +kernel
theorem d3_19 : decode prog_47_method_3_code 19 = .ok (.iload_n 1, 1) := by decide +kernel
theorem d3_20 : decode prog_47_method_3_code 20 = .ok (.istore 6, 2) := by decide +kernel
theorem d3_22 : decode prog_47_method_3_code 22 = .ok (.iload 6, 2) := by decide +kernel
theorem d3_24 : decode prog_47_method_3_code 24 = .ok (.iload_n 2, 1) := by decide +kernel
theorem d3_25 : decode prog_47_method_3_code 25 = .ok (.if_icmp .ge 46, 3) := by decide +kernel
theorem d3_28 : decode prog_47_method_3_code 28 = .ok (.aload_n 0, 1) := by decide +kernel
theorem d3_29 : decode prog_47_method_3_code 29 = .ok (.iload 6, 2) := by decide +kernel
theorem d3_31 : decode prog_47_method_3_code 31 = .ok (.baload, 1) := by decide +kernel
theorem d3_32 : decode prog_47_method_3_code 32 = .ok (.bipush 48, 2) := by decide +kernel
theorem d3_34 : decode prog_47_method_3_code 34 = .ok (.isub, 1) := by decide +kernel
theorem d3_35 : decode prog_47_method_3_code 35 = .ok (.istore 7, 2) := by decide +kernel
theorem d3_37 : decode prog_47_method_3_code 37 = .ok (.iload 7, 2) := by decide +kernel
theorem d3_39 : decode prog_47_method_3_code 39 = .ok (.ifCond .lt 10, 3) := by decide +kernel
theorem d3_42 : decode prog_47_method_3_code 42 = .ok (.iload 7, 2) := by decide +kernel
theorem d3_44 : decode prog_47_method_3_code 44 = .ok (.bipush 9, 2) := by decide +kernel
theorem d3_46 : decode prog_47_method_3_code 46 = .ok (.if_icmp .le 7, 3) := by decide +kernel
theorem d3_49 : decode prog_47_method_3_code 49 = .ok (.ldc2_w 7, 3) := by decide +kernel
theorem d3_52 : decode prog_47_method_3_code 52 = .ok (.lreturn, 1) := by decide +kernel
theorem d3_53 : decode prog_47_method_3_code 53 = .ok (.lload 4, 2) := by decide +kernel
theorem d3_55 : decode prog_47_method_3_code 55 = .ok (.ldc2_w 27, 3) := by decide +kernel
theorem d3_58 : decode prog_47_method_3_code 58 = .ok (.lmul, 1) := by decide +kernel
theorem d3_59 : decode prog_47_method_3_code 59 = .ok (.iload 7, 2) := by decide +kernel
theorem d3_61 : decode prog_47_method_3_code 61 = .ok (.i2l, 1) := by decide +kernel
theorem d3_62 : decode prog_47_method_3_code 62 = .ok (.ladd, 1) := by decide +kernel
theorem d3_63 : decode prog_47_method_3_code 63 = .ok (.lstore 4, 2) := by decide +kernel
theorem d3_65 : decode prog_47_method_3_code 65 = .ok (.iinc 6 1, 3) := by decide +kernel
theorem d3_68 : decode prog_47_method_3_code 68 = .ok (.goto (-46), 3) := by decide +kernel
theorem d3_71 : decode prog_47_method_3_code 71 = .ok (.lload 4, 2) := by decide +kernel
theorem d3_73 : decode prog_47_method_3_code 73 = .ok (.lreturn, 1) := by decide +kernel
theorem own_pn3 : plainName "com/example/tickwire/tickwire/core/WholeNumber" = true := by first | (simp [plainName, overriddenIn]; done) | decide +kernel
set_option maxRecDepth 65536 in
set_option maxHeartbeats 40000000 in
theorem lp3_22 (l : Launch) (Z : State) (a0 : Array Value) (hw : ∀ d ∈ tables_1, d.before a0 Z = true) {n0 : Nat} {K : own_Cx} {P : Option Value → Heap → Prop} {h : Heap} {cl sl : Nat} (M : own_Mx Z a0 K prog_47_method_3_code "com/example/tickwire/tickwire/core/WholeNumber" 8 (some .long) ({ frames := 0, cells := 0, slots := 0, locals := 0 } : Room)) (o0 : Addr) (i1 i2 i3 : Int32) {nn : Nat} {ws : List Int32} (V : own_Va Z h o0 .byte nn (own_lsi ws)) (hto : i2.toInt ≤ nn) :
    ∀ (k : Nat) (T : State) (X : own_Sx n0 K T h cl sl) (t : Nat) (i : Int32) (v : Int64) (s7 : Slot) (hs7 : One s7) (hi : i.toInt = t) (hk : i2.toInt = t + k ∨ (k = 0 ∧ i2.toInt ≤ t)) (hP : P (some (.long (own_ps ws k t v))) h), own_Fin n0 K P T 22 #[.val (.ref o0), .val (.int i1), .val (.int i2), .val (.int i3), .val (.long v), .second, .val (.int i), s7] [] := by
  intro k
  induction k with
  | zero =>
    intro T X t i v s7 hs7 hi hk hP
    refine own_iload M X d3_22 rfl rfl ?_
    refine own_iloadN M X d3_24 rfl rfl ?_
    refine own_icmp_ge M X d3_25 (by decide) rfl rfl (fun q1 => ?_) (fun q1 => ?_)
    · skip
      refine own_lload M X d3_71 rfl rfl ?_
      exact own_retJ M X d3_73 (by rw [own_ps] at hP; exact hP)
    · skip
      exfalso; rw [Int32.lt_iff_toInt_lt] at q1; omega
  | succ k ih =>
    intro T X t i v s7 hs7 hi hk hP
    refine own_iload M X d3_22 rfl rfl ?_
    refine own_iloadN M X d3_24 rfl rfl ?_
    refine own_icmp_ge M X d3_25 (by decide) rfl rfl (fun q1 => ?_) (fun q1 => ?_)
    · skip
      exfalso; rw [Int32.lt_iff_toInt_lt] at q1; omega
    · skip
      refine own_aloadN M X d3_28 rfl rfl rfl ?_
      refine own_iload M X d3_29 rfl rfl ?_
      refine own_baload M X V (i := t) hi (by omega) rfl d3_31 rfl ?_
      refine own_bipush M X (v := (48 : Int32)) d3_32 rfl rfl ?_
      refine own_isub M X d3_34 rfl ?_
      refine own_istore M X (L' := #[.val (.ref o0), .val (.int i1), .val (.int i2), .val (.int i3), .val (.long v), .second, .val (.int i), .val (.int ((ws.getD t 0) - (48 : Int32)))]) d3_35 (XS.store1 rfl hs7 rfl) rfl ?_
      refine own_iload M X d3_37 rfl rfl ?_
      refine own_if_lt M X d3_39 (by decide) rfl rfl (fun q2 => ?_) (fun q2 => ?_)
      · skip
        refine own_ldc2_w M X (hw _ (List.mem_of_getElem? (i := 14) rfl)) d3_49 rfl ?_
        exact own_retJ M X d3_52 (by rw [own_ps, if_pos q2] at hP; exact hP)
      · skip
        refine own_iload M X d3_42 rfl rfl ?_
        refine own_bipush M X (v := (9 : Int32)) d3_44 rfl rfl ?_
        refine own_icmp_le M X d3_46 (by decide) rfl rfl (fun q3 => ?_) (fun q3 => ?_)
        · skip
          refine own_lload M X d3_53 rfl rfl ?_
          refine own_ldc2_w M X (hw _ (List.mem_of_getElem? (i := 22) rfl)) d3_55 rfl ?_
          refine own_lmul M X d3_58 rfl ?_
          refine own_iload M X d3_59 rfl rfl ?_
          refine own_i2l M X d3_61 rfl ?_
          refine own_ladd M X d3_62 rfl ?_
          refine own_lstore M X (L' := #[.val (.ref o0), .val (.int i1), .val (.int i2), .val (.int i3), .val (.long ((v * (10 : Int64)) + (((ws.getD t 0) - (48 : Int32)).toInt64))), .second, .val (.int i), .val (.int ((ws.getD t 0) - (48 : Int32)))]) d3_63 rfl rfl ?_
          refine own_iinc M X (L' := #[.val (.ref o0), .val (.int i1), .val (.int i2), .val (.int i3), .val (.long ((v * (10 : Int64)) + (((ws.getD t 0) - (48 : Int32)).toInt64))), .second, .val (.int (i + (1 : Int32))), .val (.int ((ws.getD t 0) - (48 : Int32)))]) (v := (i + (1 : Int32))) d3_65 rfl rfl rfl rfl ?_
          refine own_goto M X d3_68 (by decide) rfl ?_
          exact ih T X (t + 1) (i + (1 : Int32)) ((v * (10 : Int64)) + (((ws.getD t 0) - (48 : Int32)).toInt64)) _ (One.val rfl) (own_inc hi (by have := i2.toInt_lt; omega)) (by omega) (by rw [own_ps, if_neg q2, if_neg q3] at hP; exact hP)
        · skip
          refine own_ldc2_w M X (hw _ (List.mem_of_getElem? (i := 14) rfl)) d3_49 rfl ?_
          exact own_retJ M X d3_52 (by rw [own_ps, if_neg q2, if_pos q3] at hP; exact hP)
set_option maxRecDepth 65536 in
set_option maxHeartbeats 40000000 in
theorem met_3 (l : Launch) (Z : State) (a0 : Array Value) (hw : ∀ d ∈ tables_1, d.before a0 Z = true) (h0 : Heap) (n0 : Nat) (hn : n0 ≤ h0.size) (o0 : Addr) (i1 : Int32) (i2 : Int32) (i3 : Int32) (nn : Nat) (ws : List Int32) (V : own_Va Z h0 o0 .byte nn (own_lsi ws)) (g1 : 0 ≤ i1.toInt) (g2 : i1.toInt ≤ nn) (g3 : i2.toInt ≤ nn) : own_Met l Z n0 (⟨"com/example/tickwire/tickwire/core/WholeNumber", "parse", "([BIII)J"⟩ : MethodName) prog_47_method_3_code 8 (some .long) ({ frames := 0, cells := 0, slots := 0, locals := 0 } : Room) #[(.ref o0), (.int i1), (.int i2), (.int i3)] h0 (fun v h => v = some (.long (F3 ws i1 i2 i3)) ∧ h = h0) := by
  refine own_enter (L := #[.val (.ref o0), .val (.int i1), .val (.int i2), .val (.int i3), .unset, .unset, .unset, .unset]) (plainFor_of_name own_pn3) hw hn (fun m => by first | (simp [entryFrame, mkF, argsToLocals, Value.category]; done) | rfl) (fun K T hK M X => ?_)
  refine own_iloadN M X d3_0 rfl rfl ?_
  refine own_iloadN M X d3_1 rfl rfl ?_
  refine own_icmp_ge M X d3_2 (by decide) rfl rfl (fun q1 => ?_) (fun q1 => ?_)
  · skip
    refine own_ldc2_w M X (hw _ (List.mem_of_getElem? (i := 14) rfl)) d3_12 rfl ?_
    exact own_retJ M X d3_15 ⟨by rw [F3, if_neg q1], rfl⟩
  · skip
    refine own_iloadN M X d3_5 rfl rfl ?_
    refine own_iloadN M X d3_6 rfl rfl ?_
    refine own_isub M X d3_7 rfl ?_
    refine own_iloadN M X d3_8 rfl rfl ?_
    refine own_icmp_le M X d3_9 (by decide) rfl rfl (fun q2 => ?_) (fun q2 => ?_)
    · skip
      refine own_lconst M X (v := (0 : Int64)) d3_16 rfl rfl ?_
      refine own_lstore M X (L' := #[.val (.ref o0), .val (.int i1), .val (.int i2), .val (.int i3), .val (.long (0 : Int64)), .second, .unset, .unset]) d3_17 rfl rfl ?_
      refine own_iloadN M X d3_19 rfl rfl ?_
      refine own_istore M X (L' := #[.val (.ref o0), .val (.int i1), .val (.int i2), .val (.int i3), .val (.long (0 : Int64)), .second, .val (.int i1), .unset]) d3_20 rfl rfl ?_
      exact lp3_22 l Z a0 hw M o0 i1 i2 i3 V g3 (i2.toInt - i1.toInt).toNat T X i1.toInt.toNat i1 0 _ One.u (by omega) (by omega) ⟨by rw [F3, if_pos q1, if_neg q2], rfl⟩
    · skip
      refine own_ldc2_w M X (hw _ (List.mem_of_getElem? (i := 14) rfl)) d3_12 rfl ?_
      exact own_retJ M X d3_15 ⟨by rw [F3, if_pos q1, if_pos q2], rfl⟩
theorem own_r7 (x : Int32) : 0 ≤ ((x &&& (7 : Int32)) % (5 : Int32)).toInt ∧ ((x &&& (7 : Int32)) % (5 : Int32)).toInt ≤ (4 : Nat) := by
  have e1 : (x &&& 7).toInt = x.toInt % 2 ^ 3 := Jvm.Kit.i32_mask x 7 (k := 3) (by decide) (by decide)
  have e2 : ((x &&& 7) % 5).toInt = (x &&& 7).toInt % 5 := Jvm.Kit.i32_rem_nonneg (by omega)
  omega
def F0 (x0 : Int32) (x1 : Int32) (x2 : Int32) (x3 : Int32) (x4 : Int32) (x5 : Int32) : Int32 := (if (F3 [((F1 x0).toInt8.toInt32), ((F1 x1).toInt8.toInt32), ((F1 x2).toInt8.toInt32), ((F1 x3).toInt8.toInt32)] ((x4 &&& (7 : Int32)) % (5 : Int32)) ((((x4.toUInt32 >>> ((3 : Int32) &&& 31).toUInt32).toInt32) &&& (7 : Int32)) % (5 : Int32)) ((18 : Int32) - ((x5 &&& (2147483647 : Int32)) % (24 : Int32)))) = (F2 [((F1 x0).toInt8.toInt32), ((F1 x1).toInt8.toInt32), ((F1 x2).toInt8.toInt32), ((F1 x3).toInt8.toInt32)] ((x4 &&& (7 : Int32)) % (5 : Int32)) ((((x4.toUInt32 >>> ((3 : Int32) &&& 31).toUInt32).toInt32) &&& (7 : Int32)) % (5 : Int32)) ((18 : Int32) - ((x5 &&& (2147483647 : Int32)) % (24 : Int32)))) then (1 : Int32) else (0 : Int32))
theorem own_pn0 : plainName "com/example/tickwire/tickwire/core/WholeNumberParsePinLaw" = true := by first | (simp [plainName, overriddenIn]; done) | decide +kernel
set_option maxRecDepth 65536 in
set_option maxHeartbeats 40000000 in
theorem met_0 (l : Launch) (Z : State) (a0 : Array Value) (hw : ∀ d ∈ tables_1, d.before a0 Z = true) (h0 : Heap) (n0 : Nat) (hn : n0 ≤ h0.size) (x0 : Int32) (x1 : Int32) (x2 : Int32) (x3 : Int32) (x4 : Int32) (x5 : Int32) : own_Met l Z n0 x code maxLocals ret room_1 #[(.int x0), (.int x1), (.int x2), (.int x3), (.int x4), (.int x5)] h0 (fun v h => v = some (.int (F0 x0 x1 x2 x3 x4 x5))) := by
  refine own_enter (L := #[.val (.int x0), .val (.int x1), .val (.int x2), .val (.int x3), .val (.int x4), .val (.int x5), .unset, .unset, .unset, .unset, .unset, .unset]) (plainFor_of_name own_pn0) hw hn (fun m => by first | (simp [entryFrame, mkF, argsToLocals, Value.category, maxLocals]; done) | rfl) (fun K T hK M X => ?_)
  refine own_iconst M X (v := (4 : Int32)) at_0 rfl rfl ?_
  refine own_newarray M X (n := 4) 4 (hw _ (List.mem_of_getElem? (i := 0) rfl)) at_1 rfl (by decide) (by decide) (by decide) (by decide) (by decide) ?_
  intro T1 h2 a3 ge4 gs5 X6 E7 V8
  replace V8 : own_Va Z h2 a3 .byte 4 (own_lsi [(0 : Int32), (0 : Int32), (0 : Int32), (0 : Int32)]) := V8.congr (own_zeroi _ _ rfl)
  refine own_astore M X6 (L' := #[.val (.int x0), .val (.int x1), .val (.int x2), .val (.int x3), .val (.int x4), .val (.int x5), .val (.ref a3), .unset, .unset, .unset, .unset, .unset]) at_3 rfl rfl rfl ?_
  refine own_aload M X6 at_5 rfl rfl rfl ?_
  refine own_iconst M X6 (v := (0 : Int32)) at_7 rfl rfl ?_
  refine own_iloadN M X6 at_8 rfl rfl ?_
  refine own_callP M X6 (yrm := ({ frames := 0, cells := 0, slots := 0, locals := 0 } : Room)) [(.int x0)] (hw _ (List.mem_of_getElem? (i := 1) rfl)) (hw _ (List.mem_of_getElem? (i := 2) rfl)) (hw _ (List.mem_of_getElem? (i := 3) rfl)) (hw _ (List.mem_of_getElem? (i := 4) rfl)) (by decide) (met_1 _ Z a0 hw h2 n0 X6.size x0) rfl at_9 rfl own_pd2 rfl rfl 2 (Nat.le_of_eq rfl) (by decide) (by decide) rfl rfl ?_
  intro T9 X10
  refine own_bastore M X10 V8 ge4 (i := 0) (by decide) (by decide) at_12 rfl ?_
  intro T11 h12 X13 K14 V15
  replace V15 : own_Va Z h12 a3 .byte 4 (own_lsi [((F1 x0).toInt8.toInt32), (0 : Int32), (0 : Int32), (0 : Int32)]) := V15.congr (own_seti rfl (by simp))
  refine own_aload M X13 at_13 rfl rfl rfl ?_
  refine own_iconst M X13 (v := (1 : Int32)) at_15 rfl rfl ?_
  refine own_iloadN M X13 at_16 rfl rfl ?_
  refine own_callP M X13 (yrm := ({ frames := 0, cells := 0, slots := 0, locals := 0 } : Room)) [(.int x1)] (hw _ (List.mem_of_getElem? (i := 1) rfl)) (hw _ (List.mem_of_getElem? (i := 2) rfl)) (hw _ (List.mem_of_getElem? (i := 3) rfl)) (hw _ (List.mem_of_getElem? (i := 4) rfl)) (by decide) (met_1 _ Z a0 hw h12 n0 X13.size x1) rfl at_17 rfl own_pd2 rfl rfl 2 (Nat.le_of_eq rfl) (by decide) (by decide) rfl rfl ?_
  intro T16 X17
  refine own_bastore M X17 V15 ge4 (i := 1) (by decide) (by decide) at_20 rfl ?_
  intro T18 h19 X20 K21 V22
  replace V22 : own_Va Z h19 a3 .byte 4 (own_lsi [((F1 x0).toInt8.toInt32), ((F1 x1).toInt8.toInt32), (0 : Int32), (0 : Int32)]) := V22.congr (own_seti rfl (by simp))
  refine own_aload M X20 at_21 rfl rfl rfl ?_
  refine own_iconst M X20 (v := (2 : Int32)) at_23 rfl rfl ?_
  refine own_iloadN M X20 at_24 rfl rfl ?_
  refine own_callP M X20 (yrm := ({ frames := 0, cells := 0, slots := 0, locals := 0 } : Room)) [(.int x2)] (hw _ (List.mem_of_getElem? (i := 1) rfl)) (hw _ (List.mem_of_getElem? (i := 2) rfl)) (hw _ (List.mem_of_getElem? (i := 3) rfl)) (hw _ (List.mem_of_getElem? (i := 4) rfl)) (by decide) (met_1 _ Z a0 hw h19 n0 X20.size x2) rfl at_25 rfl own_pd2 rfl rfl 2 (Nat.le_of_eq rfl) (by decide) (by decide) rfl rfl ?_
  intro T23 X24
  refine own_bastore M X24 V22 ge4 (i := 2) (by decide) (by decide) at_28 rfl ?_
  intro T25 h26 X27 K28 V29
  replace V29 : own_Va Z h26 a3 .byte 4 (own_lsi [((F1 x0).toInt8.toInt32), ((F1 x1).toInt8.toInt32), ((F1 x2).toInt8.toInt32), (0 : Int32)]) := V29.congr (own_seti rfl (by simp))
  refine own_aload M X27 at_29 rfl rfl rfl ?_
  refine own_iconst M X27 (v := (3 : Int32)) at_31 rfl rfl ?_
  refine own_iloadN M X27 at_32 rfl rfl ?_
  refine own_callP M X27 (yrm := ({ frames := 0, cells := 0, slots := 0, locals := 0 } : Room)) [(.int x3)] (hw _ (List.mem_of_getElem? (i := 1) rfl)) (hw _ (List.mem_of_getElem? (i := 2) rfl)) (hw _ (List.mem_of_getElem? (i := 3) rfl)) (hw _ (List.mem_of_getElem? (i := 4) rfl)) (by decide) (met_1 _ Z a0 hw h26 n0 X27.size x3) rfl at_33 rfl own_pd2 rfl rfl 2 (Nat.le_of_eq rfl) (by decide) (by decide) rfl rfl ?_
  intro T30 X31
  refine own_bastore M X31 V29 ge4 (i := 3) (by decide) (by decide) at_36 rfl ?_
  intro T32 h33 X34 K35 V36
  replace V36 : own_Va Z h33 a3 .byte 4 (own_lsi [((F1 x0).toInt8.toInt32), ((F1 x1).toInt8.toInt32), ((F1 x2).toInt8.toInt32), ((F1 x3).toInt8.toInt32)]) := V36.congr (own_seti rfl (by simp))
  refine own_iload M X34 at_37 rfl rfl ?_
  refine own_bipush M X34 (v := (7 : Int32)) at_39 rfl rfl ?_
  refine own_iand M X34 at_41 rfl ?_
  refine own_iconst M X34 (v := (5 : Int32)) at_42 rfl rfl ?_
  refine own_irem M X34 at_43 (by decide) rfl ?_
  refine own_istore M X34 (L' := #[.val (.int x0), .val (.int x1), .val (.int x2), .val (.int x3), .val (.int x4), .val (.int x5), .val (.ref a3), .val (.int ((x4 &&& (7 : Int32)) % (5 : Int32))), .unset, .unset, .unset, .unset]) at_44 rfl rfl ?_
  refine own_iload M X34 at_46 rfl rfl ?_
  refine own_iconst M X34 (v := (3 : Int32)) at_48 rfl rfl ?_
  refine own_iushr M X34 at_49 rfl ?_
  refine own_bipush M X34 (v := (7 : Int32)) at_50 rfl rfl ?_
  refine own_iand M X34 at_52 rfl ?_
  refine own_iconst M X34 (v := (5 : Int32)) at_53 rfl rfl ?_
  refine own_irem M X34 at_54 (by decide) rfl ?_
  refine own_istore M X34 (L' := #[.val (.int x0), .val (.int x1), .val (.int x2), .val (.int x3), .val (.int x4), .val (.int x5), .val (.ref a3), .val (.int ((x4 &&& (7 : Int32)) % (5 : Int32))), .val (.int ((((x4.toUInt32 >>> ((3 : Int32) &&& 31).toUInt32).toInt32) &&& (7 : Int32)) % (5 : Int32))), .unset, .unset, .unset]) at_55 rfl rfl ?_
  refine own_bipush M X34 (v := (18 : Int32)) at_57 rfl rfl ?_
  refine own_iload M X34 at_59 rfl rfl ?_
  refine own_ldc M X34 (hw _ (List.mem_of_getElem? (i := 5) rfl)) at_61 rfl ?_
  refine own_iand M X34 at_63 rfl ?_
  refine own_bipush M X34 (v := (24 : Int32)) at_64 rfl rfl ?_
  refine own_irem M X34 at_66 (by decide) rfl ?_
  refine own_isub M X34 at_67 rfl ?_
  refine own_istore M X34 (L' := #[.val (.int x0), .val (.int x1), .val (.int x2), .val (.int x3), .val (.int x4), .val (.int x5), .val (.ref a3), .val (.int ((x4 &&& (7 : Int32)) % (5 : Int32))), .val (.int ((((x4.toUInt32 >>> ((3 : Int32) &&& 31).toUInt32).toInt32) &&& (7 : Int32)) % (5 : Int32))), .val (.int ((18 : Int32) - ((x5 &&& (2147483647 : Int32)) % (24 : Int32)))), .unset, .unset]) at_68 rfl rfl ?_
  refine own_aload M X34 at_70 rfl rfl rfl ?_
  refine own_iload M X34 at_72 rfl rfl ?_
  refine own_iload M X34 at_74 rfl rfl ?_
  refine own_iload M X34 at_76 rfl rfl ?_
  refine own_callP M X34 (yrm := ({ frames := 2, cells := 0, slots := 0, locals := 30 } : Room)) [(.ref a3), (.int ((x4 &&& (7 : Int32)) % (5 : Int32))), (.int ((((x4.toUInt32 >>> ((3 : Int32) &&& 31).toUInt32).toInt32) &&& (7 : Int32)) % (5 : Int32))), (.int ((18 : Int32) - ((x5 &&& (2147483647 : Int32)) % (24 : Int32))))] (hw _ (List.mem_of_getElem? (i := 6) rfl)) (hw _ (List.mem_of_getElem? (i := 7) rfl)) (hw _ (List.mem_of_getElem? (i := 3) rfl)) (hw _ (List.mem_of_getElem? (i := 8) rfl)) (by decide) (met_2 _ Z a0 hw h33 n0 X34.size a3 ((x4 &&& (7 : Int32)) % (5 : Int32)) ((((x4.toUInt32 >>> ((3 : Int32) &&& 31).toUInt32).toInt32) &&& (7 : Int32)) % (5 : Int32)) ((18 : Int32) - ((x5 &&& (2147483647 : Int32)) % (24 : Int32))) [((F1 x0).toInt8.toInt32), ((F1 x1).toInt8.toInt32), ((F1 x2).toInt8.toInt32), ((F1 x3).toInt8.toInt32)] V36) rfl at_78 rfl own_pd1 rfl rfl 0 (Nat.le_of_eq rfl) (by decide) (by decide) rfl rfl ?_
  intro T37 X38
  refine own_lstore M X38 (L' := #[.val (.int x0), .val (.int x1), .val (.int x2), .val (.int x3), .val (.int x4), .val (.int x5), .val (.ref a3), .val (.int ((x4 &&& (7 : Int32)) % (5 : Int32))), .val (.int ((((x4.toUInt32 >>> ((3 : Int32) &&& 31).toUInt32).toInt32) &&& (7 : Int32)) % (5 : Int32))), .val (.int ((18 : Int32) - ((x5 &&& (2147483647 : Int32)) % (24 : Int32)))), .val (.long (F2 [((F1 x0).toInt8.toInt32), ((F1 x1).toInt8.toInt32), ((F1 x2).toInt8.toInt32), ((F1 x3).toInt8.toInt32)] ((x4 &&& (7 : Int32)) % (5 : Int32)) ((((x4.toUInt32 >>> ((3 : Int32) &&& 31).toUInt32).toInt32) &&& (7 : Int32)) % (5 : Int32)) ((18 : Int32) - ((x5 &&& (2147483647 : Int32)) % (24 : Int32))))), .second]) at_81 rfl rfl ?_
  refine own_aload M X38 at_83 rfl rfl rfl ?_
  refine own_iload M X38 at_85 rfl rfl ?_
  refine own_iload M X38 at_87 rfl rfl ?_
  refine own_iload M X38 at_89 rfl rfl ?_
  refine own_callP M X38 (yrm := ({ frames := 0, cells := 0, slots := 0, locals := 0 } : Room)) [(.ref a3), (.int ((x4 &&& (7 : Int32)) % (5 : Int32))), (.int ((((x4.toUInt32 >>> ((3 : Int32) &&& 31).toUInt32).toInt32) &&& (7 : Int32)) % (5 : Int32))), (.int ((18 : Int32) - ((x5 &&& (2147483647 : Int32)) % (24 : Int32))))] (hw _ (List.mem_of_getElem? (i := 10) rfl)) (hw _ (List.mem_of_getElem? (i := 11) rfl)) (hw _ (List.mem_of_getElem? (i := 12) rfl)) (hw _ (List.mem_of_getElem? (i := 13) rfl)) (by decide) (met_3 _ Z a0 hw h33 n0 X38.size a3 ((x4 &&& (7 : Int32)) % (5 : Int32)) ((((x4.toUInt32 >>> ((3 : Int32) &&& 31).toUInt32).toInt32) &&& (7 : Int32)) % (5 : Int32)) ((18 : Int32) - ((x5 &&& (2147483647 : Int32)) % (24 : Int32))) 4 [((F1 x0).toInt8.toInt32), ((F1 x1).toInt8.toInt32), ((F1 x2).toInt8.toInt32), ((F1 x3).toInt8.toInt32)] V36 (own_r7 _).1 (own_r7 _).2 (own_r7 _).2) rfl at_91 rfl own_pd1 rfl rfl 0 (Nat.le_of_eq rfl) (by decide) (by decide) rfl rfl ?_
  intro T39 X40
  refine own_lload M X40 at_94 rfl rfl ?_
  refine own_lcmp_ne M X40 at_96 rfl at_97 (by decide) rfl rfl (fun q41 => ?_) (fun q41 => ?_)
  · skip
    refine own_iconst M X40 (v := (0 : Int32)) at_104 rfl rfl ?_
    exact own_retN M X40 (z' := (0 : Int32)) (by simp) at_105 rfl (by rw [F0, if_neg q41])
  · skip
    refine own_iconst M X40 (v := (1 : Int32)) at_100 rfl rfl ?_
    refine own_goto M X40 at_101 (by decide) rfl ?_
    exact own_retN M X40 (z' := (1 : Int32)) (by simp) at_105 rfl (by rw [F0, if_pos q41])
theorem own_five (x : Int32) (h1 : 0 ≤ x.toInt) (h2 : x.toInt ≤ 4) : x = 0 ∨ x = 1 ∨ x = 2 ∨ x = 3 ∨ x = 4 := by
  simp only [← Int32.toInt_inj, show (0 : Int32).toInt = 0 from by decide, show (1 : Int32).toInt = 1 from by decide, show (2 : Int32).toInt = 2 from by decide, show (3 : Int32).toInt = 3 from by decide, show (4 : Int32).toInt = 4 from by decide]
  omega
theorem own_rng (y : Int32) : -128 ≤ (y.toInt8.toInt32).toInt ∧ (y.toInt8.toInt32).toInt ≤ 127 := by
  rw [Int8.toInt_toInt32]
  have h1 := y.toInt8.le_toInt
  have h2 := y.toInt8.toInt_lt
  omega
theorem own_gb (w : Int32) : (¬ w < (48 : Int32) ∧ ¬ (57 : Int32) < w) ∨ (w < (48 : Int32) ∨ (57 : Int32) < w) := by
  by_cases q1 : w < (48 : Int32)
  · exact Or.inr (Or.inl q1)
  · by_cases q2 : (57 : Int32) < w
    · exact Or.inr (Or.inr q2)
    · exact Or.inl ⟨q1, q2⟩
theorem own_sub (w : Int32) (r1 : -128 ≤ w.toInt) (r2 : w.toInt ≤ 127) : (w - (48 : Int32)).toInt = w.toInt - 48 := by
  have e : (48 : Int32).toInt = 48 := by decide
  rw [Jvm.Kit.i32_sub (by omega) (by omega), e]
theorem own_D (w : Int32) (r1 : -128 ≤ w.toInt) (r2 : w.toInt ≤ 127) (g : ¬ w < (48 : Int32) ∧ ¬ (57 : Int32) < w) : 0 ≤ ((w - (48 : Int32)).toInt64).toInt ∧ ((w - (48 : Int32)).toInt64).toInt ≤ 9 := by
  have e := own_sub w r1 r2
  rw [Jvm.Kit.i64_of_i32, e]
  rw [Int32.lt_iff_toInt_lt, Int32.lt_iff_toInt_lt, show (48 : Int32).toInt = 48 from by decide, show (57 : Int32).toInt = 57 from by decide] at g
  omega
theorem own_pos (w : Int32) (p : Int64) (r1 : -128 ≤ w.toInt) (r2 : w.toInt ≤ 127) (g : ¬ w < (48 : Int32) ∧ ¬ (57 : Int32) < w) (p1 : 0 ≤ p.toInt) (p2 : p.toInt ≤ 1000) : ¬ (((w - (48 : Int32)).toInt64) * p) < (0 : Int64) := by
  have d := own_D w r1 r2 g
  have m1 : 0 ≤ ((w - (48 : Int32)).toInt64).toInt * p.toInt := Int.mul_nonneg d.1 p1
  have m2 : ((w - (48 : Int32)).toInt64).toInt * p.toInt ≤ 9 * 1000 := Int.mul_le_mul d.2 p2 p1 (by decide)
  rw [Int64.lt_iff_toInt_lt, Jvm.Kit.i64_mul (by omega) (by omega), show (0 : Int64).toInt = 0 from by decide]
  omega
theorem own_psG (ws : List Int32) (k t : Nat) (v : Int64) (w : Int32) (hw : ws.getD t 0 = w) (r1 : -128 ≤ w.toInt) (r2 : w.toInt ≤ 127) (g : ¬ w < (48 : Int32) ∧ ¬ (57 : Int32) < w) : own_ps ws (k + 1) t v = own_ps ws k (t + 1) ((v * (10 : Int64)) + ((w - (48 : Int32)).toInt64)) := by
  have e := own_sub w r1 r2
  rw [own_ps, hw]
  rw [Int32.lt_iff_toInt_lt, Int32.lt_iff_toInt_lt, show (48 : Int32).toInt = 48 from by decide, show (57 : Int32).toInt = 57 from by decide] at g
  rw [if_neg (by rw [Int32.lt_iff_toInt_lt, e, show (0 : Int32).toInt = 0 from by decide]; omega), if_neg (by rw [Int32.lt_iff_toInt_lt, e, show (9 : Int32).toInt = 9 from by decide]; omega)]
theorem own_psB (ws : List Int32) (k t : Nat) (v : Int64) (w : Int32) (hw : ws.getD t 0 = w) (r1 : -128 ≤ w.toInt) (r2 : w.toInt ≤ 127) (g : w < (48 : Int32) ∨ (57 : Int32) < w) : own_ps ws (k + 1) t v = -1 := by
  have e := own_sub w r1 r2
  rw [own_ps, hw]
  rw [Int32.lt_iff_toInt_lt, Int32.lt_iff_toInt_lt, show (48 : Int32).toInt = 48 from by decide, show (57 : Int32).toInt = 57 from by decide] at g
  by_cases q : (w - (48 : Int32)) < (0 : Int32)
  · rw [if_pos q]
  · rw [if_neg q]
    rw [Int32.lt_iff_toInt_lt, e, show (0 : Int32).toInt = 0 from by decide] at q
    rw [if_pos (by rw [Int32.lt_iff_toInt_lt, e, show (9 : Int32).toInt = 9 from by decide]; omega)]
theorem own_F4G (ws : List Int32) (ii : Nat) (i a b : Int32) (w : Int32) (p : Int64) (hw : ws.getD ii 0 = w) (h1 : ¬ i < a) (h2 : i < b) (hp : F5 ((b - (1 : Int32)) - i) = p) (g : ¬ w < (48 : Int32) ∧ ¬ (57 : Int32) < w) : F4 ws ii i a b = ((w - (48 : Int32)).toInt64) * p := by
  unfold F4
  rw [if_neg h1, if_pos h2, hw, if_neg g.1, if_neg g.2, hp]
theorem own_F4B (ws : List Int32) (ii : Nat) (i a b : Int32) (w : Int32) (hw : ws.getD ii 0 = w) (h1 : ¬ i < a) (h2 : i < b) (g : w < (48 : Int32) ∨ (57 : Int32) < w) : F4 ws ii i a b = -1 := by
  unfold F4
  rw [if_neg h1, if_pos h2, hw]
  by_cases q : w < (48 : Int32)
  · rw [if_pos q]
  · rw [if_neg q, if_pos (g.resolve_left q)]
theorem own_F4O (ws : List Int32) (ii : Nat) (i a b : Int32) (h : i < a ∨ ¬ i < b) : F4 ws ii i a b = 0 := by
  unfold F4
  by_cases q : i < a
  · rw [if_pos q]
  · rw [if_neg q, if_neg (h.resolve_left q)]
theorem own_n1 : (-1 : Int64) < 0 := by decide
theorem own_n0 : ¬ (0 : Int64) < 0 := by decide
theorem own_t2 (a b : Int64) : (a * 10 + b) * 10 = a * 100 + b * 10 := by
  rw [Int64.add_mul, Int64.mul_assoc, show (10 : Int64) * 10 = 100 from by decide]
theorem own_t3 (a b c : Int64) : ((a * 10 + b) * 10 + c) * 10 = a * 1000 + b * 100 + c * 10 := by
  rw [Int64.add_mul, own_t2, Int64.add_mul, Int64.mul_assoc, Int64.mul_assoc, show (100 : Int64) * 10 = 1000 from by decide, show (10 : Int64) * 10 = 100 from by decide]
theorem own_c_0_0 (w0 w1 w2 w3 c : Int32) (r0 : -128 ≤ w0.toInt ∧ w0.toInt ≤ 127) (r1 : -128 ≤ w1.toInt ∧ w1.toInt ≤ 127) (r2 : -128 ≤ w2.toInt ∧ w2.toInt ≤ 127) (r3 : -128 ≤ w3.toInt ∧ w3.toInt ≤ 127) : F3 [w0, w1, w2, w3] (0 : Int32) (0 : Int32) c = F2 [w0, w1, w2, w3] (0 : Int32) (0 : Int32) c := by
  unfold F3 F2
  have hab : ¬ (0 : Int32) < (0 : Int32) := by decide
  rw [if_neg hab, if_neg hab]
theorem own_c_0_1 (w0 w1 w2 w3 c : Int32) (r0 : -128 ≤ w0.toInt ∧ w0.toInt ≤ 127) (r1 : -128 ≤ w1.toInt ∧ w1.toInt ≤ 127) (r2 : -128 ≤ w2.toInt ∧ w2.toInt ≤ 127) (r3 : -128 ≤ w3.toInt ∧ w3.toInt ≤ 127) : F3 [w0, w1, w2, w3] (0 : Int32) (1 : Int32) c = F2 [w0, w1, w2, w3] (0 : Int32) (1 : Int32) c := by
  unfold F3 F2
  have hab : (0 : Int32) < (1 : Int32) := by decide
  rw [if_pos hab, if_pos hab]
  by_cases q : c < ((1 : Int32) - (0 : Int32))
  · rw [if_pos q, if_pos q]
  · rw [if_neg q, if_neg q, show ((1 : Int32).toInt - (0 : Int32).toInt).toNat = 1 from by decide, show (0 : Int32).toInt.toNat = 0 from by decide]
    rw [own_F4O [w0, w1, w2, w3] 1 (1 : Int32) (0 : Int32) (1 : Int32) (by decide)]
    rw [own_F4O [w0, w1, w2, w3] 2 (2 : Int32) (0 : Int32) (1 : Int32) (by decide)]
    rw [own_F4O [w0, w1, w2, w3] 3 (3 : Int32) (0 : Int32) (1 : Int32) (by decide)]
    rcases own_gb w0 with g0 | g0
    · rw [own_psG _ _ _ _ w0 rfl r0.1 r0.2 g0, own_F4G [w0, w1, w2, w3] 0 (0 : Int32) (0 : Int32) (1 : Int32) w0 1 rfl (by decide) (by decide) (by decide) g0]
      rw [own_ps]
      simp only [if_neg own_n0, if_neg (own_pos w0 (1 : Int64) r0.1 r0.2 g0 (by decide) (by decide))]
      simp only [Int64.zero_mul, Int64.zero_add, Int64.add_zero, Int64.mul_one]
      try rfl
    · rw [own_psB _ _ _ _ w0 rfl r0.1 r0.2 g0, own_F4B [w0, w1, w2, w3] 0 (0 : Int32) (0 : Int32) (1 : Int32) w0 rfl (by decide) (by decide) g0]
      simp only [if_neg own_n0, if_pos own_n1]
theorem own_c_0_2 (w0 w1 w2 w3 c : Int32) (r0 : -128 ≤ w0.toInt ∧ w0.toInt ≤ 127) (r1 : -128 ≤ w1.toInt ∧ w1.toInt ≤ 127) (r2 : -128 ≤ w2.toInt ∧ w2.toInt ≤ 127) (r3 : -128 ≤ w3.toInt ∧ w3.toInt ≤ 127) : F3 [w0, w1, w2, w3] (0 : Int32) (2 : Int32) c = F2 [w0, w1, w2, w3] (0 : Int32) (2 : Int32) c := by
  unfold F3 F2
  have hab : (0 : Int32) < (2 : Int32) := by decide
  rw [if_pos hab, if_pos hab]
  by_cases q : c < ((2 : Int32) - (0 : Int32))
  · rw [if_pos q, if_pos q]
  · rw [if_neg q, if_neg q, show ((2 : Int32).toInt - (0 : Int32).toInt).toNat = 2 from by decide, show (0 : Int32).toInt.toNat = 0 from by decide]
    rw [own_F4O [w0, w1, w2, w3] 2 (2 : Int32) (0 : Int32) (2 : Int32) (by decide)]
    rw [own_F4O [w0, w1, w2, w3] 3 (3 : Int32) (0 : Int32) (2 : Int32) (by decide)]
    rcases own_gb w0 with g0 | g0
    · rw [own_psG _ _ _ _ w0 rfl r0.1 r0.2 g0, own_F4G [w0, w1, w2, w3] 0 (0 : Int32) (0 : Int32) (2 : Int32) w0 10 rfl (by decide) (by decide) (by decide) g0]
      rcases own_gb w1 with g1 | g1
      · rw [own_psG _ _ _ _ w1 rfl r1.1 r1.2 g1, own_F4G [w0, w1, w2, w3] 1 (1 : Int32) (0 : Int32) (2 : Int32) w1 1 rfl (by decide) (by decide) (by decide) g1]
        rw [own_ps]
        simp only [if_neg own_n0, if_neg (own_pos w0 (10 : Int64) r0.1 r0.2 g0 (by decide) (by decide)), if_neg (own_pos w1 (1 : Int64) r1.1 r1.2 g1 (by decide) (by decide))]
        simp only [Int64.zero_mul, Int64.zero_add, Int64.add_zero, Int64.mul_one]
        try rfl
      · rw [own_psB _ _ _ _ w1 rfl r1.1 r1.2 g1, own_F4B [w0, w1, w2, w3] 1 (1 : Int32) (0 : Int32) (2 : Int32) w1 rfl (by decide) (by decide) g1]
        simp only [if_neg own_n0, if_pos own_n1, if_neg (own_pos w0 (10 : Int64) r0.1 r0.2 g0 (by decide) (by decide))]
    · rw [own_psB _ _ _ _ w0 rfl r0.1 r0.2 g0, own_F4B [w0, w1, w2, w3] 0 (0 : Int32) (0 : Int32) (2 : Int32) w0 rfl (by decide) (by decide) g0]
      simp only [if_neg own_n0, if_pos own_n1]
theorem own_c_0_3 (w0 w1 w2 w3 c : Int32) (r0 : -128 ≤ w0.toInt ∧ w0.toInt ≤ 127) (r1 : -128 ≤ w1.toInt ∧ w1.toInt ≤ 127) (r2 : -128 ≤ w2.toInt ∧ w2.toInt ≤ 127) (r3 : -128 ≤ w3.toInt ∧ w3.toInt ≤ 127) : F3 [w0, w1, w2, w3] (0 : Int32) (3 : Int32) c = F2 [w0, w1, w2, w3] (0 : Int32) (3 : Int32) c := by
  unfold F3 F2
  have hab : (0 : Int32) < (3 : Int32) := by decide
  rw [if_pos hab, if_pos hab]
  by_cases q : c < ((3 : Int32) - (0 : Int32))
  · rw [if_pos q, if_pos q]
  · rw [if_neg q, if_neg q, show ((3 : Int32).toInt - (0 : Int32).toInt).toNat = 3 from by decide, show (0 : Int32).toInt.toNat = 0 from by decide]
    rw [own_F4O [w0, w1, w2, w3] 3 (3 : Int32) (0 : Int32) (3 : Int32) (by decide)]
    rcases own_gb w0 with g0 | g0
    · rw [own_psG _ _ _ _ w0 rfl r0.1 r0.2 g0, own_F4G [w0, w1, w2, w3] 0 (0 : Int32) (0 : Int32) (3 : Int32) w0 100 rfl (by decide) (by decide) (by decide) g0]
      rcases own_gb w1 with g1 | g1
      · rw [own_psG _ _ _ _ w1 rfl r1.1 r1.2 g1, own_F4G [w0, w1, w2, w3] 1 (1 : Int32) (0 : Int32) (3 : Int32) w1 10 rfl (by decide) (by decide) (by decide) g1]
        rcases own_gb w2 with g2 | g2
        · rw [own_psG _ _ _ _ w2 rfl r2.1 r2.2 g2, own_F4G [w0, w1, w2, w3] 2 (2 : Int32) (0 : Int32) (3 : Int32) w2 1 rfl (by decide) (by decide) (by decide) g2]
          rw [own_ps]
          simp only [if_neg own_n0, if_neg (own_pos w0 (100 : Int64) r0.1 r0.2 g0 (by decide) (by decide)), if_neg (own_pos w1 (10 : Int64) r1.1 r1.2 g1 (by decide) (by decide)), if_neg (own_pos w2 (1 : Int64) r2.1 r2.2 g2 (by decide) (by decide))]
          simp only [Int64.zero_mul, Int64.zero_add, Int64.add_zero, Int64.mul_one, own_t2]
          try rfl
        · rw [own_psB _ _ _ _ w2 rfl r2.1 r2.2 g2, own_F4B [w0, w1, w2, w3] 2 (2 : Int32) (0 : Int32) (3 : Int32) w2 rfl (by decide) (by decide) g2]
          simp only [if_neg own_n0, if_pos own_n1, if_neg (own_pos w0 (100 : Int64) r0.1 r0.2 g0 (by decide) (by decide)), if_neg (own_pos w1 (10 : Int64) r1.1 r1.2 g1 (by decide) (by decide))]
      · rw [own_psB _ _ _ _ w1 rfl r1.1 r1.2 g1, own_F4B [w0, w1, w2, w3] 1 (1 : Int32) (0 : Int32) (3 : Int32) w1 rfl (by decide) (by decide) g1]
        simp only [if_neg own_n0, if_pos own_n1, if_neg (own_pos w0 (100 : Int64) r0.1 r0.2 g0 (by decide) (by decide))]
    · rw [own_psB _ _ _ _ w0 rfl r0.1 r0.2 g0, own_F4B [w0, w1, w2, w3] 0 (0 : Int32) (0 : Int32) (3 : Int32) w0 rfl (by decide) (by decide) g0]
      simp only [if_neg own_n0, if_pos own_n1]
theorem own_c_0_4 (w0 w1 w2 w3 c : Int32) (r0 : -128 ≤ w0.toInt ∧ w0.toInt ≤ 127) (r1 : -128 ≤ w1.toInt ∧ w1.toInt ≤ 127) (r2 : -128 ≤ w2.toInt ∧ w2.toInt ≤ 127) (r3 : -128 ≤ w3.toInt ∧ w3.toInt ≤ 127) : F3 [w0, w1, w2, w3] (0 : Int32) (4 : Int32) c = F2 [w0, w1, w2, w3] (0 : Int32) (4 : Int32) c := by
  unfold F3 F2
  have hab : (0 : Int32) < (4 : Int32) := by decide
  rw [if_pos hab, if_pos hab]
  by_cases q : c < ((4 : Int32) - (0 : Int32))
  · rw [if_pos q, if_pos q]
  · rw [if_neg q, if_neg q, show ((4 : Int32).toInt - (0 : Int32).toInt).toNat = 4 from by decide, show (0 : Int32).toInt.toNat = 0 from by decide]
    rcases own_gb w0 with g0 | g0
    · rw [own_psG _ _ _ _ w0 rfl r0.1 r0.2 g0, own_F4G [w0, w1, w2, w3] 0 (0 : Int32) (0 : Int32) (4 : Int32) w0 1000 rfl (by decide) (by decide) (by decide) g0]
      rcases own_gb w1 with g1 | g1
      · rw [own_psG _ _ _ _ w1 rfl r1.1 r1.2 g1, own_F4G [w0, w1, w2, w3] 1 (1 : Int32) (0 : Int32) (4 : Int32) w1 100 rfl (by decide) (by decide) (by decide) g1]
        rcases own_gb w2 with g2 | g2
        · rw [own_psG _ _ _ _ w2 rfl r2.1 r2.2 g2, own_F4G [w0, w1, w2, w3] 2 (2 : Int32) (0 : Int32) (4 : Int32) w2 10 rfl (by decide) (by decide) (by decide) g2]
          rcases own_gb w3 with g3 | g3
          · rw [own_psG _ _ _ _ w3 rfl r3.1 r3.2 g3, own_F4G [w0, w1, w2, w3] 3 (3 : Int32) (0 : Int32) (4 : Int32) w3 1 rfl (by decide) (by decide) (by decide) g3]
            rw [own_ps]
            simp only [if_neg own_n0, if_neg (own_pos w0 (1000 : Int64) r0.1 r0.2 g0 (by decide) (by decide)), if_neg (own_pos w1 (100 : Int64) r1.1 r1.2 g1 (by decide) (by decide)), if_neg (own_pos w2 (10 : Int64) r2.1 r2.2 g2 (by decide) (by decide)), if_neg (own_pos w3 (1 : Int64) r3.1 r3.2 g3 (by decide) (by decide))]
            simp only [Int64.zero_mul, Int64.zero_add, Int64.add_zero, Int64.mul_one, own_t3]
            try rfl
          · rw [own_psB _ _ _ _ w3 rfl r3.1 r3.2 g3, own_F4B [w0, w1, w2, w3] 3 (3 : Int32) (0 : Int32) (4 : Int32) w3 rfl (by decide) (by decide) g3]
            simp only [if_neg own_n0, if_pos own_n1, if_neg (own_pos w0 (1000 : Int64) r0.1 r0.2 g0 (by decide) (by decide)), if_neg (own_pos w1 (100 : Int64) r1.1 r1.2 g1 (by decide) (by decide)), if_neg (own_pos w2 (10 : Int64) r2.1 r2.2 g2 (by decide) (by decide))]
        · rw [own_psB _ _ _ _ w2 rfl r2.1 r2.2 g2, own_F4B [w0, w1, w2, w3] 2 (2 : Int32) (0 : Int32) (4 : Int32) w2 rfl (by decide) (by decide) g2]
          simp only [if_neg own_n0, if_pos own_n1, if_neg (own_pos w0 (1000 : Int64) r0.1 r0.2 g0 (by decide) (by decide)), if_neg (own_pos w1 (100 : Int64) r1.1 r1.2 g1 (by decide) (by decide))]
      · rw [own_psB _ _ _ _ w1 rfl r1.1 r1.2 g1, own_F4B [w0, w1, w2, w3] 1 (1 : Int32) (0 : Int32) (4 : Int32) w1 rfl (by decide) (by decide) g1]
        simp only [if_neg own_n0, if_pos own_n1, if_neg (own_pos w0 (1000 : Int64) r0.1 r0.2 g0 (by decide) (by decide))]
    · rw [own_psB _ _ _ _ w0 rfl r0.1 r0.2 g0, own_F4B [w0, w1, w2, w3] 0 (0 : Int32) (0 : Int32) (4 : Int32) w0 rfl (by decide) (by decide) g0]
      simp only [if_neg own_n0, if_pos own_n1]
theorem own_c_1_0 (w0 w1 w2 w3 c : Int32) (r0 : -128 ≤ w0.toInt ∧ w0.toInt ≤ 127) (r1 : -128 ≤ w1.toInt ∧ w1.toInt ≤ 127) (r2 : -128 ≤ w2.toInt ∧ w2.toInt ≤ 127) (r3 : -128 ≤ w3.toInt ∧ w3.toInt ≤ 127) : F3 [w0, w1, w2, w3] (1 : Int32) (0 : Int32) c = F2 [w0, w1, w2, w3] (1 : Int32) (0 : Int32) c := by
  unfold F3 F2
  have hab : ¬ (1 : Int32) < (0 : Int32) := by decide
  rw [if_neg hab, if_neg hab]
theorem own_c_1_1 (w0 w1 w2 w3 c : Int32) (r0 : -128 ≤ w0.toInt ∧ w0.toInt ≤ 127) (r1 : -128 ≤ w1.toInt ∧ w1.toInt ≤ 127) (r2 : -128 ≤ w2.toInt ∧ w2.toInt ≤ 127) (r3 : -128 ≤ w3.toInt ∧ w3.toInt ≤ 127) : F3 [w0, w1, w2, w3] (1 : Int32) (1 : Int32) c = F2 [w0, w1, w2, w3] (1 : Int32) (1 : Int32) c := by
  unfold F3 F2
  have hab : ¬ (1 : Int32) < (1 : Int32) := by decide
  rw [if_neg hab, if_neg hab]
theorem own_c_1_2 (w0 w1 w2 w3 c : Int32) (r0 : -128 ≤ w0.toInt ∧ w0.toInt ≤ 127) (r1 : -128 ≤ w1.toInt ∧ w1.toInt ≤ 127) (r2 : -128 ≤ w2.toInt ∧ w2.toInt ≤ 127) (r3 : -128 ≤ w3.toInt ∧ w3.toInt ≤ 127) : F3 [w0, w1, w2, w3] (1 : Int32) (2 : Int32) c = F2 [w0, w1, w2, w3] (1 : Int32) (2 : Int32) c := by
  unfold F3 F2
  have hab : (1 : Int32) < (2 : Int32) := by decide
  rw [if_pos hab, if_pos hab]
  by_cases q : c < ((2 : Int32) - (1 : Int32))
  · rw [if_pos q, if_pos q]
  · rw [if_neg q, if_neg q, show ((2 : Int32).toInt - (1 : Int32).toInt).toNat = 1 from by decide, show (1 : Int32).toInt.toNat = 1 from by decide]
    rw [own_F4O [w0, w1, w2, w3] 0 (0 : Int32) (1 : Int32) (2 : Int32) (by decide)]
    rw [own_F4O [w0, w1, w2, w3] 2 (2 : Int32) (1 : Int32) (2 : Int32) (by decide)]
    rw [own_F4O [w0, w1, w2, w3] 3 (3 : Int32) (1 : Int32) (2 : Int32) (by decide)]
    rcases own_gb w1 with g1 | g1
    · rw [own_psG _ _ _ _ w1 rfl r1.1 r1.2 g1, own_F4G [w0, w1, w2, w3] 1 (1 : Int32) (1 : Int32) (2 : Int32) w1 1 rfl (by decide) (by decide) (by decide) g1]
      rw [own_ps]
      simp only [if_neg own_n0, if_neg (own_pos w1 (1 : Int64) r1.1 r1.2 g1 (by decide) (by decide))]
      simp only [Int64.zero_mul, Int64.zero_add, Int64.add_zero, Int64.mul_one]
      try rfl
    · rw [own_psB _ _ _ _ w1 rfl r1.1 r1.2 g1, own_F4B [w0, w1, w2, w3] 1 (1 : Int32) (1 : Int32) (2 : Int32) w1 rfl (by decide) (by decide) g1]
      simp only [if_neg own_n0, if_pos own_n1]
theorem own_c_1_3 (w0 w1 w2 w3 c : Int32) (r0 : -128 ≤ w0.toInt ∧ w0.toInt ≤ 127) (r1 : -128 ≤ w1.toInt ∧ w1.toInt ≤ 127) (r2 : -128 ≤ w2.toInt ∧ w2.toInt ≤ 127) (r3 : -128 ≤ w3.toInt ∧ w3.toInt ≤ 127) : F3 [w0, w1, w2, w3] (1 : Int32) (3 : Int32) c = F2 [w0, w1, w2, w3] (1 : Int32) (3 : Int32) c := by
  unfold F3 F2
  have hab : (1 : Int32) < (3 : Int32) := by decide
  rw [if_pos hab, if_pos hab]
  by_cases q : c < ((3 : Int32) - (1 : Int32))
  · rw [if_pos q, if_pos q]
  · rw [if_neg q, if_neg q, show ((3 : Int32).toInt - (1 : Int32).toInt).toNat = 2 from by decide, show (1 : Int32).toInt.toNat = 1 from by decide]
    rw [own_F4O [w0, w1, w2, w3] 0 (0 : Int32) (1 : Int32) (3 : Int32) (by decide)]
    rw [own_F4O [w0, w1, w2, w3] 3 (3 : Int32) (1 : Int32) (3 : Int32) (by decide)]
    rcases own_gb w1 with g1 | g1
    · rw [own_psG _ _ _ _ w1 rfl r1.1 r1.2 g1, own_F4G [w0, w1, w2, w3] 1 (1 : Int32) (1 : Int32) (3 : Int32) w1 10 rfl (by decide) (by decide) (by decide) g1]
      rcases own_gb w2 with g2 | g2
      · rw [own_psG _ _ _ _ w2 rfl r2.1 r2.2 g2, own_F4G [w0, w1, w2, w3] 2 (2 : Int32) (1 : Int32) (3 : Int32) w2 1 rfl (by decide) (by decide) (by decide) g2]
        rw [own_ps]
        simp only [if_neg own_n0, if_neg (own_pos w1 (10 : Int64) r1.1 r1.2 g1 (by decide) (by decide)), if_neg (own_pos w2 (1 : Int64) r2.1 r2.2 g2 (by decide) (by decide))]
        simp only [Int64.zero_mul, Int64.zero_add, Int64.add_zero, Int64.mul_one]
        try rfl
      · rw [own_psB _ _ _ _ w2 rfl r2.1 r2.2 g2, own_F4B [w0, w1, w2, w3] 2 (2 : Int32) (1 : Int32) (3 : Int32) w2 rfl (by decide) (by decide) g2]
        simp only [if_neg own_n0, if_pos own_n1, if_neg (own_pos w1 (10 : Int64) r1.1 r1.2 g1 (by decide) (by decide))]
    · rw [own_psB _ _ _ _ w1 rfl r1.1 r1.2 g1, own_F4B [w0, w1, w2, w3] 1 (1 : Int32) (1 : Int32) (3 : Int32) w1 rfl (by decide) (by decide) g1]
      simp only [if_neg own_n0, if_pos own_n1]
theorem own_c_1_4 (w0 w1 w2 w3 c : Int32) (r0 : -128 ≤ w0.toInt ∧ w0.toInt ≤ 127) (r1 : -128 ≤ w1.toInt ∧ w1.toInt ≤ 127) (r2 : -128 ≤ w2.toInt ∧ w2.toInt ≤ 127) (r3 : -128 ≤ w3.toInt ∧ w3.toInt ≤ 127) : F3 [w0, w1, w2, w3] (1 : Int32) (4 : Int32) c = F2 [w0, w1, w2, w3] (1 : Int32) (4 : Int32) c := by
  unfold F3 F2
  have hab : (1 : Int32) < (4 : Int32) := by decide
  rw [if_pos hab, if_pos hab]
  by_cases q : c < ((4 : Int32) - (1 : Int32))
  · rw [if_pos q, if_pos q]
  · rw [if_neg q, if_neg q, show ((4 : Int32).toInt - (1 : Int32).toInt).toNat = 3 from by decide, show (1 : Int32).toInt.toNat = 1 from by decide]
    rw [own_F4O [w0, w1, w2, w3] 0 (0 : Int32) (1 : Int32) (4 : Int32) (by decide)]
    rcases own_gb w1 with g1 | g1
    · rw [own_psG _ _ _ _ w1 rfl r1.1 r1.2 g1, own_F4G [w0, w1, w2, w3] 1 (1 : Int32) (1 : Int32) (4 : Int32) w1 100 rfl (by decide) (by decide) (by decide) g1]
      rcases own_gb w2 with g2 | g2
      · rw [own_psG _ _ _ _ w2 rfl r2.1 r2.2 g2, own_F4G [w0, w1, w2, w3] 2 (2 : Int32) (1 : Int32) (4 : Int32) w2 10 rfl (by decide) (by decide) (by decide) g2]
        rcases own_gb w3 with g3 | g3
        · rw [own_psG _ _ _ _ w3 rfl r3.1 r3.2 g3, own_F4G [w0, w1, w2, w3] 3 (3 : Int32) (1 : Int32) (4 : Int32) w3 1 rfl (by decide) (by decide) (by decide) g3]
          rw [own_ps]
          simp only [if_neg own_n0, if_neg (own_pos w1 (100 : Int64) r1.1 r1.2 g1 (by decide) (by decide)), if_neg (own_pos w2 (10 : Int64) r2.1 r2.2 g2 (by decide) (by decide)), if_neg (own_pos w3 (1 : Int64) r3.1 r3.2 g3 (by decide) (by decide))]
          simp only [Int64.zero_mul, Int64.zero_add, Int64.add_zero, Int64.mul_one, own_t2]
          try rfl
        · rw [own_psB _ _ _ _ w3 rfl r3.1 r3.2 g3, own_F4B [w0, w1, w2, w3] 3 (3 : Int32) (1 : Int32) (4 : Int32) w3 rfl (by decide) (by decide) g3]
          simp only [if_neg own_n0, if_pos own_n1, if_neg (own_pos w1 (100 : Int64) r1.1 r1.2 g1 (by decide) (by decide)), if_neg (own_pos w2 (10 : Int64) r2.1 r2.2 g2 (by decide) (by decide))]
      · rw [own_psB _ _ _ _ w2 rfl r2.1 r2.2 g2, own_F4B [w0, w1, w2, w3] 2 (2 : Int32) (1 : Int32) (4 : Int32) w2 rfl (by decide) (by decide) g2]
        simp only [if_neg own_n0, if_pos own_n1, if_neg (own_pos w1 (100 : Int64) r1.1 r1.2 g1 (by decide) (by decide))]
    · rw [own_psB _ _ _ _ w1 rfl r1.1 r1.2 g1, own_F4B [w0, w1, w2, w3] 1 (1 : Int32) (1 : Int32) (4 : Int32) w1 rfl (by decide) (by decide) g1]
      simp only [if_neg own_n0, if_pos own_n1]
theorem own_c_2_0 (w0 w1 w2 w3 c : Int32) (r0 : -128 ≤ w0.toInt ∧ w0.toInt ≤ 127) (r1 : -128 ≤ w1.toInt ∧ w1.toInt ≤ 127) (r2 : -128 ≤ w2.toInt ∧ w2.toInt ≤ 127) (r3 : -128 ≤ w3.toInt ∧ w3.toInt ≤ 127) : F3 [w0, w1, w2, w3] (2 : Int32) (0 : Int32) c = F2 [w0, w1, w2, w3] (2 : Int32) (0 : Int32) c := by
  unfold F3 F2
  have hab : ¬ (2 : Int32) < (0 : Int32) := by decide
  rw [if_neg hab, if_neg hab]
theorem own_c_2_1 (w0 w1 w2 w3 c : Int32) (r0 : -128 ≤ w0.toInt ∧ w0.toInt ≤ 127) (r1 : -128 ≤ w1.toInt ∧ w1.toInt ≤ 127) (r2 : -128 ≤ w2.toInt ∧ w2.toInt ≤ 127) (r3 : -128 ≤ w3.toInt ∧ w3.toInt ≤ 127) : F3 [w0, w1, w2, w3] (2 : Int32) (1 : Int32) c = F2 [w0, w1, w2, w3] (2 : Int32) (1 : Int32) c := by
  unfold F3 F2
  have hab : ¬ (2 : Int32) < (1 : Int32) := by decide
  rw [if_neg hab, if_neg hab]
theorem own_c_2_2 (w0 w1 w2 w3 c : Int32) (r0 : -128 ≤ w0.toInt ∧ w0.toInt ≤ 127) (r1 : -128 ≤ w1.toInt ∧ w1.toInt ≤ 127) (r2 : -128 ≤ w2.toInt ∧ w2.toInt ≤ 127) (r3 : -128 ≤ w3.toInt ∧ w3.toInt ≤ 127) : F3 [w0, w1, w2, w3] (2 : Int32) (2 : Int32) c = F2 [w0, w1, w2, w3] (2 : Int32) (2 : Int32) c := by
  unfold F3 F2
  have hab : ¬ (2 : Int32) < (2 : Int32) := by decide
  rw [if_neg hab, if_neg hab]
theorem own_c_2_3 (w0 w1 w2 w3 c : Int32) (r0 : -128 ≤ w0.toInt ∧ w0.toInt ≤ 127) (r1 : -128 ≤ w1.toInt ∧ w1.toInt ≤ 127) (r2 : -128 ≤ w2.toInt ∧ w2.toInt ≤ 127) (r3 : -128 ≤ w3.toInt ∧ w3.toInt ≤ 127) : F3 [w0, w1, w2, w3] (2 : Int32) (3 : Int32) c = F2 [w0, w1, w2, w3] (2 : Int32) (3 : Int32) c := by
  unfold F3 F2
  have hab : (2 : Int32) < (3 : Int32) := by decide
  rw [if_pos hab, if_pos hab]
  by_cases q : c < ((3 : Int32) - (2 : Int32))
  · rw [if_pos q, if_pos q]
  · rw [if_neg q, if_neg q, show ((3 : Int32).toInt - (2 : Int32).toInt).toNat = 1 from by decide, show (2 : Int32).toInt.toNat = 2 from by decide]
    rw [own_F4O [w0, w1, w2, w3] 0 (0 : Int32) (2 : Int32) (3 : Int32) (by decide)]
    rw [own_F4O [w0, w1, w2, w3] 1 (1 : Int32) (2 : Int32) (3 : Int32) (by decide)]
    rw [own_F4O [w0, w1, w2, w3] 3 (3 : Int32) (2 : Int32) (3 : Int32) (by decide)]
    rcases own_gb w2 with g2 | g2
    · rw [own_psG _ _ _ _ w2 rfl r2.1 r2.2 g2, own_F4G [w0, w1, w2, w3] 2 (2 : Int32) (2 : Int32) (3 : Int32) w2 1 rfl (by decide) (by decide) (by decide) g2]
      rw [own_ps]
      simp only [if_neg own_n0, if_neg (own_pos w2 (1 : Int64) r2.1 r2.2 g2 (by decide) (by decide))]
      simp only [Int64.zero_mul, Int64.zero_add, Int64.add_zero, Int64.mul_one]
      try rfl
    · rw [own_psB _ _ _ _ w2 rfl r2.1 r2.2 g2, own_F4B [w0, w1, w2, w3] 2 (2 : Int32) (2 : Int32) (3 : Int32) w2 rfl (by decide) (by decide) g2]
      simp only [if_neg own_n0, if_pos own_n1]
theorem own_c_2_4 (w0 w1 w2 w3 c : Int32) (r0 : -128 ≤ w0.toInt ∧ w0.toInt ≤ 127) (r1 : -128 ≤ w1.toInt ∧ w1.toInt ≤ 127) (r2 : -128 ≤ w2.toInt ∧ w2.toInt ≤ 127) (r3 : -128 ≤ w3.toInt ∧ w3.toInt ≤ 127) : F3 [w0, w1, w2, w3] (2 : Int32) (4 : Int32) c = F2 [w0, w1, w2, w3] (2 : Int32) (4 : Int32) c := by
  unfold F3 F2
  have hab : (2 : Int32) < (4 : Int32) := by decide
  rw [if_pos hab, if_pos hab]
  by_cases q : c < ((4 : Int32) - (2 : Int32))
  · rw [if_pos q, if_pos q]
  · rw [if_neg q, if_neg q, show ((4 : Int32).toInt - (2 : Int32).toInt).toNat = 2 from by decide, show (2 : Int32).toInt.toNat = 2 from by decide]
    rw [own_F4O [w0, w1, w2, w3] 0 (0 : Int32) (2 : Int32) (4 : Int32) (by decide)]
    rw [own_F4O [w0, w1, w2, w3] 1 (1 : Int32) (2 : Int32) (4 : Int32) (by decide)]
    rcases own_gb w2 with g2 | g2
    · rw [own_psG _ _ _ _ w2 rfl r2.1 r2.2 g2, own_F4G [w0, w1, w2, w3] 2 (2 : Int32) (2 : Int32) (4 : Int32) w2 10 rfl (by decide) (by decide) (by decide) g2]
      rcases own_gb w3 with g3 | g3
      · rw [own_psG _ _ _ _ w3 rfl r3.1 r3.2 g3, own_F4G [w0, w1, w2, w3] 3 (3 : Int32) (2 : Int32) (4 : Int32) w3 1 rfl (by decide) (by decide) (by decide) g3]
        rw [own_ps]
        simp only [if_neg own_n0, if_neg (own_pos w2 (10 : Int64) r2.1 r2.2 g2 (by decide) (by decide)), if_neg (own_pos w3 (1 : Int64) r3.1 r3.2 g3 (by decide) (by decide))]
        simp only [Int64.zero_mul, Int64.zero_add, Int64.add_zero, Int64.mul_one]
        try rfl
      · rw [own_psB _ _ _ _ w3 rfl r3.1 r3.2 g3, own_F4B [w0, w1, w2, w3] 3 (3 : Int32) (2 : Int32) (4 : Int32) w3 rfl (by decide) (by decide) g3]
        simp only [if_neg own_n0, if_pos own_n1, if_neg (own_pos w2 (10 : Int64) r2.1 r2.2 g2 (by decide) (by decide))]
    · rw [own_psB _ _ _ _ w2 rfl r2.1 r2.2 g2, own_F4B [w0, w1, w2, w3] 2 (2 : Int32) (2 : Int32) (4 : Int32) w2 rfl (by decide) (by decide) g2]
      simp only [if_neg own_n0, if_pos own_n1]
theorem own_c_3_0 (w0 w1 w2 w3 c : Int32) (r0 : -128 ≤ w0.toInt ∧ w0.toInt ≤ 127) (r1 : -128 ≤ w1.toInt ∧ w1.toInt ≤ 127) (r2 : -128 ≤ w2.toInt ∧ w2.toInt ≤ 127) (r3 : -128 ≤ w3.toInt ∧ w3.toInt ≤ 127) : F3 [w0, w1, w2, w3] (3 : Int32) (0 : Int32) c = F2 [w0, w1, w2, w3] (3 : Int32) (0 : Int32) c := by
  unfold F3 F2
  have hab : ¬ (3 : Int32) < (0 : Int32) := by decide
  rw [if_neg hab, if_neg hab]
theorem own_c_3_1 (w0 w1 w2 w3 c : Int32) (r0 : -128 ≤ w0.toInt ∧ w0.toInt ≤ 127) (r1 : -128 ≤ w1.toInt ∧ w1.toInt ≤ 127) (r2 : -128 ≤ w2.toInt ∧ w2.toInt ≤ 127) (r3 : -128 ≤ w3.toInt ∧ w3.toInt ≤ 127) : F3 [w0, w1, w2, w3] (3 : Int32) (1 : Int32) c = F2 [w0, w1, w2, w3] (3 : Int32) (1 : Int32) c := by
  unfold F3 F2
  have hab : ¬ (3 : Int32) < (1 : Int32) := by decide
  rw [if_neg hab, if_neg hab]
theorem own_c_3_2 (w0 w1 w2 w3 c : Int32) (r0 : -128 ≤ w0.toInt ∧ w0.toInt ≤ 127) (r1 : -128 ≤ w1.toInt ∧ w1.toInt ≤ 127) (r2 : -128 ≤ w2.toInt ∧ w2.toInt ≤ 127) (r3 : -128 ≤ w3.toInt ∧ w3.toInt ≤ 127) : F3 [w0, w1, w2, w3] (3 : Int32) (2 : Int32) c = F2 [w0, w1, w2, w3] (3 : Int32) (2 : Int32) c := by
  unfold F3 F2
  have hab : ¬ (3 : Int32) < (2 : Int32) := by decide
  rw [if_neg hab, if_neg hab]
theorem own_c_3_3 (w0 w1 w2 w3 c : Int32) (r0 : -128 ≤ w0.toInt ∧ w0.toInt ≤ 127) (r1 : -128 ≤ w1.toInt ∧ w1.toInt ≤ 127) (r2 : -128 ≤ w2.toInt ∧ w2.toInt ≤ 127) (r3 : -128 ≤ w3.toInt ∧ w3.toInt ≤ 127) : F3 [w0, w1, w2, w3] (3 : Int32) (3 : Int32) c = F2 [w0, w1, w2, w3] (3 : Int32) (3 : Int32) c := by
  unfold F3 F2
  have hab : ¬ (3 : Int32) < (3 : Int32) := by decide
  rw [if_neg hab, if_neg hab]
theorem own_c_3_4 (w0 w1 w2 w3 c : Int32) (r0 : -128 ≤ w0.toInt ∧ w0.toInt ≤ 127) (r1 : -128 ≤ w1.toInt ∧ w1.toInt ≤ 127) (r2 : -128 ≤ w2.toInt ∧ w2.toInt ≤ 127) (r3 : -128 ≤ w3.toInt ∧ w3.toInt ≤ 127) : F3 [w0, w1, w2, w3] (3 : Int32) (4 : Int32) c = F2 [w0, w1, w2, w3] (3 : Int32) (4 : Int32) c := by
  unfold F3 F2
  have hab : (3 : Int32) < (4 : Int32) := by decide
  rw [if_pos hab, if_pos hab]
  by_cases q : c < ((4 : Int32) - (3 : Int32))
  · rw [if_pos q, if_pos q]
  · rw [if_neg q, if_neg q, show ((4 : Int32).toInt - (3 : Int32).toInt).toNat = 1 from by decide, show (3 : Int32).toInt.toNat = 3 from by decide]
    rw [own_F4O [w0, w1, w2, w3] 0 (0 : Int32) (3 : Int32) (4 : Int32) (by decide)]
    rw [own_F4O [w0, w1, w2, w3] 1 (1 : Int32) (3 : Int32) (4 : Int32) (by decide)]
    rw [own_F4O [w0, w1, w2, w3] 2 (2 : Int32) (3 : Int32) (4 : Int32) (by decide)]
    rcases own_gb w3 with g3 | g3
    · rw [own_psG _ _ _ _ w3 rfl r3.1 r3.2 g3, own_F4G [w0, w1, w2, w3] 3 (3 : Int32) (3 : Int32) (4 : Int32) w3 1 rfl (by decide) (by decide) (by decide) g3]
      rw [own_ps]
      simp only [if_neg own_n0, if_neg (own_pos w3 (1 : Int64) r3.1 r3.2 g3 (by decide) (by decide))]
      simp only [Int64.zero_mul, Int64.zero_add, Int64.add_zero, Int64.mul_one]
      try rfl
    · rw [own_psB _ _ _ _ w3 rfl r3.1 r3.2 g3, own_F4B [w0, w1, w2, w3] 3 (3 : Int32) (3 : Int32) (4 : Int32) w3 rfl (by decide) (by decide) g3]
      simp only [if_neg own_n0, if_pos own_n1]
theorem own_c_4_0 (w0 w1 w2 w3 c : Int32) (r0 : -128 ≤ w0.toInt ∧ w0.toInt ≤ 127) (r1 : -128 ≤ w1.toInt ∧ w1.toInt ≤ 127) (r2 : -128 ≤ w2.toInt ∧ w2.toInt ≤ 127) (r3 : -128 ≤ w3.toInt ∧ w3.toInt ≤ 127) : F3 [w0, w1, w2, w3] (4 : Int32) (0 : Int32) c = F2 [w0, w1, w2, w3] (4 : Int32) (0 : Int32) c := by
  unfold F3 F2
  have hab : ¬ (4 : Int32) < (0 : Int32) := by decide
  rw [if_neg hab, if_neg hab]
theorem own_c_4_1 (w0 w1 w2 w3 c : Int32) (r0 : -128 ≤ w0.toInt ∧ w0.toInt ≤ 127) (r1 : -128 ≤ w1.toInt ∧ w1.toInt ≤ 127) (r2 : -128 ≤ w2.toInt ∧ w2.toInt ≤ 127) (r3 : -128 ≤ w3.toInt ∧ w3.toInt ≤ 127) : F3 [w0, w1, w2, w3] (4 : Int32) (1 : Int32) c = F2 [w0, w1, w2, w3] (4 : Int32) (1 : Int32) c := by
  unfold F3 F2
  have hab : ¬ (4 : Int32) < (1 : Int32) := by decide
  rw [if_neg hab, if_neg hab]
theorem own_c_4_2 (w0 w1 w2 w3 c : Int32) (r0 : -128 ≤ w0.toInt ∧ w0.toInt ≤ 127) (r1 : -128 ≤ w1.toInt ∧ w1.toInt ≤ 127) (r2 : -128 ≤ w2.toInt ∧ w2.toInt ≤ 127) (r3 : -128 ≤ w3.toInt ∧ w3.toInt ≤ 127) : F3 [w0, w1, w2, w3] (4 : Int32) (2 : Int32) c = F2 [w0, w1, w2, w3] (4 : Int32) (2 : Int32) c := by
  unfold F3 F2
  have hab : ¬ (4 : Int32) < (2 : Int32) := by decide
  rw [if_neg hab, if_neg hab]
theorem own_c_4_3 (w0 w1 w2 w3 c : Int32) (r0 : -128 ≤ w0.toInt ∧ w0.toInt ≤ 127) (r1 : -128 ≤ w1.toInt ∧ w1.toInt ≤ 127) (r2 : -128 ≤ w2.toInt ∧ w2.toInt ≤ 127) (r3 : -128 ≤ w3.toInt ∧ w3.toInt ≤ 127) : F3 [w0, w1, w2, w3] (4 : Int32) (3 : Int32) c = F2 [w0, w1, w2, w3] (4 : Int32) (3 : Int32) c := by
  unfold F3 F2
  have hab : ¬ (4 : Int32) < (3 : Int32) := by decide
  rw [if_neg hab, if_neg hab]
theorem own_c_4_4 (w0 w1 w2 w3 c : Int32) (r0 : -128 ≤ w0.toInt ∧ w0.toInt ≤ 127) (r1 : -128 ≤ w1.toInt ∧ w1.toInt ≤ 127) (r2 : -128 ≤ w2.toInt ∧ w2.toInt ≤ 127) (r3 : -128 ≤ w3.toInt ∧ w3.toInt ≤ 127) : F3 [w0, w1, w2, w3] (4 : Int32) (4 : Int32) c = F2 [w0, w1, w2, w3] (4 : Int32) (4 : Int32) c := by
  unfold F3 F2
  have hab : ¬ (4 : Int32) < (4 : Int32) := by decide
  rw [if_neg hab, if_neg hab]
theorem own_core (w0 w1 w2 w3 a b c : Int32) (ha : a = 0 ∨ a = 1 ∨ a = 2 ∨ a = 3 ∨ a = 4) (hb : b = 0 ∨ b = 1 ∨ b = 2 ∨ b = 3 ∨ b = 4) (r0 : -128 ≤ w0.toInt ∧ w0.toInt ≤ 127) (r1 : -128 ≤ w1.toInt ∧ w1.toInt ≤ 127) (r2 : -128 ≤ w2.toInt ∧ w2.toInt ≤ 127) (r3 : -128 ≤ w3.toInt ∧ w3.toInt ≤ 127) : F3 [w0, w1, w2, w3] a b c = F2 [w0, w1, w2, w3] a b c := by
  rcases ha with rfl | rfl | rfl | rfl | rfl <;> rcases hb with rfl | rfl | rfl | rfl | rfl
  · exact own_c_0_0 w0 w1 w2 w3 c r0 r1 r2 r3
  · exact own_c_0_1 w0 w1 w2 w3 c r0 r1 r2 r3
  · exact own_c_0_2 w0 w1 w2 w3 c r0 r1 r2 r3
  · exact own_c_0_3 w0 w1 w2 w3 c r0 r1 r2 r3
  · exact own_c_0_4 w0 w1 w2 w3 c r0 r1 r2 r3
  · exact own_c_1_0 w0 w1 w2 w3 c r0 r1 r2 r3
  · exact own_c_1_1 w0 w1 w2 w3 c r0 r1 r2 r3
  · exact own_c_1_2 w0 w1 w2 w3 c r0 r1 r2 r3
  · exact own_c_1_3 w0 w1 w2 w3 c r0 r1 r2 r3
  · exact own_c_1_4 w0 w1 w2 w3 c r0 r1 r2 r3
  · exact own_c_2_0 w0 w1 w2 w3 c r0 r1 r2 r3
  · exact own_c_2_1 w0 w1 w2 w3 c r0 r1 r2 r3
  · exact own_c_2_2 w0 w1 w2 w3 c r0 r1 r2 r3
  · exact own_c_2_3 w0 w1 w2 w3 c r0 r1 r2 r3
  · exact own_c_2_4 w0 w1 w2 w3 c r0 r1 r2 r3
  · exact own_c_3_0 w0 w1 w2 w3 c r0 r1 r2 r3
  · exact own_c_3_1 w0 w1 w2 w3 c r0 r1 r2 r3
  · exact own_c_3_2 w0 w1 w2 w3 c r0 r1 r2 r3
  · exact own_c_3_3 w0 w1 w2 w3 c r0 r1 r2 r3
  · exact own_c_3_4 w0 w1 w2 w3 c r0 r1 r2 r3
  · exact own_c_4_0 w0 w1 w2 w3 c r0 r1 r2 r3
  · exact own_c_4_1 w0 w1 w2 w3 c r0 r1 r2 r3
  · exact own_c_4_2 w0 w1 w2 w3 c r0 r1 r2 r3
  · exact own_c_4_3 w0 w1 w2 w3 c r0 r1 r2 r3
  · exact own_c_4_4 w0 w1 w2 w3 c r0 r1 r2 r3
theorem own_law (x0 x1 x2 x3 x4 x5 : Int32) : F0 x0 x1 x2 x3 x4 x5 = 1 := by
  have ra := own_r7 x4
  have rb := own_r7 ((x4.toUInt32 >>> ((3 : Int32) &&& 31).toUInt32).toInt32)
  unfold F0
  rw [own_core _ _ _ _ _ _ _ (own_five _ ra.1 ra.2) (own_five _ rb.1 rb.2) (own_rng _) (own_rng _) (own_rng _) (own_rng _), if_pos rfl]
theorem own_result (x0 : Int32) (x1 : Int32) (x2 : Int32) (x3 : Int32) (x4 : Int32) (x5 : Int32) {v : Option Value} (hv : v = some (.int (F0 x0 x1 x2 x3 x4 x5))) : v = some (.int 1) := by rw [hv, own_law x0 x1 x2 x3 x4 x5]
set_option maxRecDepth 65536 in
set_option maxHeartbeats 40000000 in
theorem comes_1 {Post : Tables → Env → Array Value → State → Outcome → State → Prop} (hpost : ∀ tb e args s v u, (limb_1_1.after args s (.returned v) u = true ∧ limb_1_2.after args s (.returned v) u = true ∧ True) → FrameEnd s (.returned v) u (Jvm.fieldLocs frame_1_writes args s ++ Jvm.arrayLocs frame_1_arrays args s ++ Jvm.staticLocs frame_1_statics s) 16 128 → Post tb e args s (.returned v) u) :
    ArmFor flags0 classFile x code maxLocals ret World_1 tables_1 room_1 Calls_1 rest_1 Pre_1 Post := by
  intro l hfl _ _ p e ha hc hk s m args below hf hA hF happ hP
  obtain ⟨hcalls, hrest, hpre⟩ := hP
  obtain ⟨-, -, -, hnamed, -, -, -, hat⟩ := (Spec.applies_iff hf).mp happ
  obtain ⟨hg, hn⟩ := and_e (Cond.before_iff.mp (show (Jvm.Cond.and given_1 narrow_1).before args s = true from hpre))
  obtain ⟨g1, g2⟩ := and_e hg
  obtain ⟨g3, g4⟩ := and_e g2
  obtain ⟨g5, g6⟩ := and_e g4
  obtain ⟨g7, g8⟩ := and_e g6
  obtain ⟨g9, g10⟩ := and_e g8
  obtain ⟨g11, g12⟩ := and_e g10
  obtain ⟨w0, w1, w2, w3, w4, w5, rfl⟩ : ∃ w0 w1 w2 w3 w4 w5 : Value, args = #[w0, w1, w2, w3, w4, w5] := by
    have hs : args.size = 6 := by simpa [Cond.value, given_1] using g1
    obtain ⟨L⟩ := args
    match L, hs with
    | [w0, w1, w2, w3, w4, w5], _ => exact ⟨w0, w1, w2, w3, w4, w5, rfl⟩
  have hw := fun d (hd : d ∈ tables_1) => atoms_spec (ws := Jvm.Cond.code x code maxLocals ret :: tables_1) hat d (List.mem_cons_of_mem _ hd)
  obtain ⟨i0, ei0⟩ := is_v g3
  obtain rfl : w0 = (.int i0) := Option.some.inj ei0
  obtain ⟨i1, ei1⟩ := is_v g5
  obtain rfl : w1 = (.int i1) := Option.some.inj ei1
  obtain ⟨i2, ei2⟩ := is_v g7
  obtain rfl : w2 = (.int i2) := Option.some.inj ei2
  obtain ⟨i3, ei3⟩ := is_v g9
  obtain rfl : w3 = (.int i3) := Option.some.inj ei3
  obtain ⟨i4, ei4⟩ := is_v g11
  obtain rfl : w4 = (.int i4) := Option.some.inj ei4
  obtain ⟨i5, ei5⟩ := is_v g12
  obtain rfl : w5 = (.int i5) := Option.some.inj ei5
  obtain ⟨n, o, h1, h2, h3, v, L, rfl, ⟨hv, N⟩, hq⟩ := met_0 l s _ hw s.heap s.heap.size (Nat.le_refl _) i0 i1 i2 i3 i4 i5 tables_1 p e ha hc hk s m _ below hf ((Spec.applies_iff_loose hf).mp happ).1 ⟨rfl, State.Warmed39.refl s, rfl⟩ trivial
  obtain rfl : v = some (.int 1) := own_result i0 i1 i2 i3 i4 i5 hv
  refine ⟨n, _, h1, h2, h3, hpost _ _ _ _ _ _ ⟨Cond.after_iff.mpr rfl, Cond.after_iff.mpr (eq_i res_at (Term.int_eval (1)) rfl), trivial⟩ ⟨hq.1, hq.2.1, (hq.2.2.sift fun y hy => Or.inr (N y hy)).mono (by decide) (by decide)⟩⟩
theorem main_1_1 : Claimed_1_1 := comes_1 fun _ _ _ _ _ _ h hF => ⟨h.1, hF⟩
theorem main_1_2 : Claimed_1_2 := comes_1 fun _ _ _ _ _ _ h hF => ⟨h.2.1, hF⟩
end Jvm.Pilot.@@N@@
namespace Jvm.Pilot.@@N@@
open Jvm Jvm.ClassFile Sem Op Lib Jvm.Free Jvm.Stand Jvm.Pilot.@@N@@.Jvm.D
/-! MADE BY PROGRAM (witnessworld.py) out of the Statement's table words and the real class files: 9 classes; the members and pool entries that the words name. The judged class is class 1, her method 1. -/
namespace start1
open Jvm.ClassFile
def u (s : String) : CpInfo := .utf8 (stringToUtf16 s)
/-- a pool by its gaps: so many unusable entries, then the entry; so many at the end -/
def gap : Nat → List CpInfo → List CpInfo
  | 0, r => r
  | n + 1, r => .unusable :: gap n r
def poolList (es : List (Nat × CpInfo)) (last : Nat) : List CpInfo := es.foldr (fun e r => gap e.1 (e.2 :: r)) (gap last [])
def pool (es : List (Nat × CpInfo)) (last : Nat) : Array CpInfo := ⟨poolList es last⟩
def fileOf (pool : Array CpInfo) (this : Nat) (attrs : Array Attribute := #[]) (ms : Array MethodInfo := #[]) (fl : Nat := 33) (sup : Nat := 0) (ifs : Array Nat := #[]) (fds : Array FieldInfo := #[]) : ClassFile where
  minorVersion := 0
  majorVersion := 65
  constantPool := pool
  accessFlags := fl
  thisClass := this
  superClass := sup
  interfaces := ifs
  fields := fds
  methods := ms
  attributes := attrs
def plain (name : String) (sup : Option ClassId) : Class where
  name := name
  kind := .ordinary
  loader := none
  accessFlags := 33
  super := sup
  interfaces := #[]
  cf := none
  fields := #[]
  methods := #[]
  instanceTypes := #[]
  staticTypes := #[]
  resolved := #[]
  callSites := []
  init := .initialized
  statics := none
  mirror := none

def pool0 : Array CpInfo := pool [(5, u "<init>"), (0, u "()V"), (1, .class_ 10), (1, u "java/lang/Object")] 113

def k0m0 : Method := { name := "<init>", desc := "()V", sig := { parameters := [], returnType := none }, accessFlags := 1, code := none }
/-- java/lang/Object -/
def k0 : Class := { plain "java/lang/Object" none with
  accessFlags := 33
  interfaces := #[]
  cf := some (fileOf pool0 8 #[] #[{ accessFlags := 1, nameIndex := 5, descriptorIndex := 6, attributes := #[] }] 33 0 #[] #[])
  fields := #[]
  methods := #[k0m0]
  instanceTypes := #[]
  staticTypes := #[]
  resolved := Array.replicate 124 none
  statics := none }

def pool1 : Array CpInfo := pool [(2, .class_ 4), (1, u "java/lang/Object"), (0, u "<init>"), (0, u "()V"), (0, .methodref 8 9), (0, .class_ 10), (0, .nameAndType 11 12), (0, u "com/example/tickwire/tickwire/core/WholeNumberParsePinLaw"), (0, u "draw"), (0, u "(I)B"), (0, .integer 2147483647), (0, .methodref 8 15), (0, .nameAndType 16 17), (0, u "reference"), (0, u "([BIII)J"), (0, .methodref 19 20), (0, .class_ 21), (0, .nameAndType 22 17), (0, u "com/example/tickwire/tickwire/core/WholeNumber"), (0, u "parse"), (0, .long 10), (1, .long 100), (1, .long 1000), (1, .long 18446744073709551615), (1, .methodref 8 32), (0, .nameAndType 33 34), (0, u "pow10"), (0, u "(I)J"), (0, .methodref 8 36), (0, .nameAndType 37 17), (0, u "term"), (2, u "law"), (0, u "(IIIIII)Z")] 5

def k1m0 : Method := { name := "<init>", desc := "()V", sig := { parameters := [], returnType := none }, accessFlags := 1, code := none }
def k1c1 : Code := { maxStack := 4, maxLocals := 12, code := code, exceptionTable := #[], attributes := #[] }
def k1m1 : Method := { name := "law", desc := "(IIIIII)Z", sig := { parameters := [.int, .int, .int, .int, .int, .int], returnType := some .boolean }, accessFlags := 9, code := some k1c1 }
def k1c2 : Code := { maxStack := 3, maxLocals := 1, code := method_3_code, exceptionTable := #[], attributes := #[] }
def k1m2 : Method := { name := "draw", desc := "(I)B", sig := { parameters := [.int], returnType := some .byte }, accessFlags := 10, code := some k1c2 }
def k1c3 : Code := { maxStack := 2, maxLocals := 1, code := method_4_code, exceptionTable := #[], attributes := #[] }
def k1m3 : Method := { name := "pow10", desc := "(I)J", sig := { parameters := [.int], returnType := some .long }, accessFlags := 10, code := some k1c3 }
def k1c4 : Code := { maxStack := 4, maxLocals := 5, code := method_5_code, exceptionTable := #[], attributes := #[] }
def k1m4 : Method := { name := "term", desc := "([BIII)J", sig := { parameters := [(.array .byte), .int, .int, .int], returnType := some .long }, accessFlags := 10, code := some k1c4 }
def k1c5 : Code := { maxStack := 4, maxLocals := 12, code := method_6_code, exceptionTable := #[], attributes := #[] }
def k1m5 : Method := { name := "reference", desc := "([BIII)J", sig := { parameters := [(.array .byte), .int, .int, .int], returnType := some .long }, accessFlags := 10, code := some k1c5 }
/-- com/example/tickwire/tickwire/core/WholeNumberParsePinLaw -/
def k1 : Class := { plain "com/example/tickwire/tickwire/core/WholeNumberParsePinLaw" (some 0) with
  accessFlags := 49
  interfaces := #[]
  cf := some (fileOf pool1 8 #[] #[{ accessFlags := 1, nameIndex := 5, descriptorIndex := 6, attributes := #[] }, { accessFlags := 9, nameIndex := 40, descriptorIndex := 41, attributes := #[] }, { accessFlags := 10, nameIndex := 11, descriptorIndex := 12, attributes := #[] }, { accessFlags := 10, nameIndex := 33, descriptorIndex := 34, attributes := #[] }, { accessFlags := 10, nameIndex := 37, descriptorIndex := 17, attributes := #[] }, { accessFlags := 10, nameIndex := 16, descriptorIndex := 17, attributes := #[] }] 49 2 #[] #[])
  fields := #[]
  methods := #[k1m0, k1m1, k1m2, k1m3, k1m4, k1m5]
  instanceTypes := #[]
  staticTypes := #[]
  resolved := Array.replicate 47 none
  statics := none }

def pool2 : Array CpInfo := pool [(2, .class_ 4), (1, u "java/lang/Object"), (0, u "<init>"), (0, u "()V"), (0, .long 18446744073709551615), (14, .class_ 24), (1, u "com/example/tickwire/tickwire/core/WholeNumber"), (0, u "parse"), (0, u "([BIII)J"), (0, .long 10), (7, u "POWERS_OF_TEN"), (0, u "[J"), (12, u "ONES"), (0, u "[B"), (2, u "TENS"), (4, u "MAX_DIGITS"), (0, u "I")] 13

def k2m0 : Method := { name := "<init>", desc := "()V", sig := { parameters := [], returnType := none }, accessFlags := 2, code := none }
def k2c1 : Code := { maxStack := 4, maxLocals := 8, code := prog_47_method_3_code, exceptionTable := #[], attributes := #[] }
def k2m1 : Method := { name := "parse", desc := "([BIII)J", sig := { parameters := [(.array .byte), .int, .int, .int], returnType := some .long }, accessFlags := 9, code := some k2c1 }
/-- com/example/tickwire/tickwire/core/WholeNumber -/
def k2 : Class := { plain "com/example/tickwire/tickwire/core/WholeNumber" (some 0) with
  accessFlags := 49
  interfaces := #[]
  cf := some (fileOf pool2 22 #[] #[{ accessFlags := 2, nameIndex := 5, descriptorIndex := 6, attributes := #[] }, { accessFlags := 9, nameIndex := 25, descriptorIndex := 26, attributes := #[] }] 49 2 #[] #[{ accessFlags := 25, nameIndex := 58, descriptorIndex := 59, attributes := #[] }, { accessFlags := 26, nameIndex := 35, descriptorIndex := 36, attributes := #[] }, { accessFlags := 26, nameIndex := 53, descriptorIndex := 50, attributes := #[] }, { accessFlags := 26, nameIndex := 49, descriptorIndex := 50, attributes := #[] }])
  fields := #[{ name := "MAX_DIGITS", type := .int, accessFlags := 25, slot := 0, constantValue := 0 }, { name := "POWERS_OF_TEN", type := (.array .long), accessFlags := 26, slot := 1, constantValue := 0 }, { name := "TENS", type := (.array .byte), accessFlags := 26, slot := 2, constantValue := 0 }, { name := "ONES", type := (.array .byte), accessFlags := 26, slot := 3, constantValue := 0 }]
  methods := #[k2m0, k2m1]
  instanceTypes := #[]
  staticTypes := #[.int, (.array .long), (.array .byte), (.array .byte)]
  resolved := Array.replicate 73 none
  statics := none }

def pool3 : Array CpInfo := pool [(1, u "java/lang/Cloneable"), (0, .class_ 1), (0, u "java/lang/Object"), (0, .class_ 3)] 3

/-- java/lang/Cloneable -/
def k3 : Class := { plain "java/lang/Cloneable" (some 0) with
  accessFlags := 1537
  interfaces := #[]
  cf := some (fileOf pool3 2 #[] #[] 1537 4 #[] #[])
  fields := #[]
  methods := #[]
  instanceTypes := #[]
  staticTypes := #[]
  resolved := Array.replicate 8 none
  statics := none }

def pool4 : Array CpInfo := pool [(1, u "java/io/Serializable"), (0, .class_ 1), (0, u "java/lang/Object"), (0, .class_ 3)] 3

/-- java/io/Serializable -/
def k4 : Class := { plain "java/io/Serializable" (some 0) with
  accessFlags := 1537
  interfaces := #[]
  cf := some (fileOf pool4 2 #[] #[] 1537 4 #[] #[])
  fields := #[]
  methods := #[]
  instanceTypes := #[]
  staticTypes := #[]
  resolved := Array.replicate 8 none
  statics := none }

/-- the primitive byte -/
def k5 : Class := { plain "byte" none with kind := .primitive 'B', accessFlags := 0x411 }
/-- [B -/
def k6 : Class := { plain "[B" (some 0) with kind := .array 5 .byte, interfaces := #[3, 4], accessFlags := 1041 }

/-- the primitive int -/
def k7 : Class := { plain "int" none with kind := .primitive 'I', accessFlags := 0x411 }
/-- [I -/
def k8 : Class := { plain "[I" (some 0) with kind := .array 7 .int, interfaces := #[3, 4], accessFlags := 1041 }

def heap : Heap := #[]
def classes : Array Class := #[k0, k1, k2, k3, k4, k5, k6, k7, k8]
def interned : List (Array UInt16 × Addr) := []
def slotsUsed : Nat := 0
def theMethod : MethodId := ⟨1, 1⟩
def args0 : Array Value := #[.int 5, .int 7, .int 9, .int 9, .int 9, .int 9]
def aboutOver (below : List Frame) : State where
  vm := { classes := classes, interned := interned.toArray }
  heap := heap
  slotsUsed := slotsUsed
  threads := #[{ frames := .invoking theMethod args0 :: below }]
def below0 : List Frame := [.native { method := ⟨0, 0⟩, args := #[] }]
def about1 : State := aboutOver below0
def p0 : Program := .bare "" "" ""
def e0 : Env := launch0.env 0 0 0
theorem w_frames : about1.frames = Frame.invoking theMethod args0 :: below0 := rfl
set_option maxRecDepth 65536 in
theorem w_args : argsFit about1.vm theMethod args0 = true := by decide +kernel
set_option maxRecDepth 65536 in
theorem w_heap : heapFits about1 = true := by decide +kernel
set_option maxRecDepth 65536 in
theorem w_runnable : about1.curStatus? = some .runnable := by decide +kernel
set_option maxRecDepth 65536 in
theorem w_alone : about1.alone = true := by decide +kernel
set_option maxRecDepth 65536 in
theorem w_named : about1.methodNamed? x = some theMethod := by decide +kernel
set_option maxRecDepth 65536 in
theorem w_hears : about1.hears theMethod below0 = true := by decide +kernel
set_option maxRecDepth 65536 in
theorem w_ripe : about1.ripe theMethod args0 below0 = true := by decide +kernel
theorem w_running : about1.status = .running := rfl
set_option maxRecDepth 65536 in
theorem w_room : about1.hasRoom e0.platform room_1 = true :=
  launch0.hasRoom_least _ room_1 (by decide +kernel) (by decide +kernel) (by decide +kernel) (by decide +kernel) (by decide +kernel) (by decide +kernel)
theorem allAtoms_all (ts : List Jvm.Cond) (a : Array Jvm.Value) (st : Jvm.State) : (allAtoms ts).before a st = ts.all (fun c => c.before a st) := by
  induction ts with
  | nil => rfl
  | cons c t ih =>
    show (Jvm.Cond.and c (allAtoms t)).before a st = _
    rw [Jvm.Cond.before_and, ih, List.all_cons]
def words1 : List Jvm.Cond := Jvm.Cond.code x code maxLocals ret :: tables_1
/-- a 'code' word, met by the world's own term for the bytes: nothing is compared byte by byte -/
theorem code_word {y : MethodName} {bytes : ByteArray} {mx : Nat} {rt : Option FieldType} {a : Array Value} {s : State} {m : MethodId} {meth : Method} {c : Code} (h1 : s.methodNamed? y = some m) (h2 : s.vm.method? m = some meth) (h3 : meth.code = some c) (h4 : c.code = bytes)
    (h5 : (c.maxLocals == mx && c.exceptionTable.isEmpty && decide (c.maxStack ≤ mostOperands) && decide (meth.sig.returnType = rt) && !meth.locks && decide (parseMethodDescriptor y.desc = some meth.sig)) = true) : (Jvm.Cond.code y bytes mx rt).before a s = true := by
  simp only [Bool.and_eq_true, beq_iff_eq, Bool.not_eq_true', decide_eq_true_eq] at h5
  obtain ⟨⟨⟨⟨⟨g1, g2⟩, g3⟩, g4⟩, g5⟩, g6⟩ := h5
  simp [Cond.before, Cond.holds, Cond.value, h1, h2, h3, h4, g1, g2, g3, g4, g5, g6]
def isCode : Jvm.Cond → Bool
  | .code _ _ _ _ => true
  | _ => false
theorem all_split {L : List Jvm.Cond} {P : Jvm.Cond → Bool} (h1 : L.all (fun c => isCode c || P c) = true) (h2 : ∀ c ∈ L.filter isCode, P c = true) : L.all P = true := by
  refine List.all_eq_true.mpr fun c hc => ?_
  have h := List.all_eq_true.mp h1 c hc
  rcases Bool.eq_false_or_eq_true (isCode c) with hi | hi
  · exact h2 c (List.mem_filter.mpr ⟨hc, hi⟩)
  · simpa [hi] using h
set_option maxRecDepth 65536 in
theorem w_c0 : (Jvm.Cond.code x code maxLocals ret).before args0 about1 = true := code_word (m := ⟨1, 1⟩) (meth := k1m1) (c := k1c1) (by decide +kernel) rfl rfl rfl (by decide +kernel)
set_option maxRecDepth 65536 in
theorem w_c1 : (Jvm.Cond.code ({ cls := "com/example/tickwire/tickwire/core/WholeNumberParsePinLaw", name := "draw", desc := "(I)B" } : Jvm.MethodName) method_3_code (1 : Nat) (Option.some Jvm.ClassFile.FieldType.byte)).before args0 about1 = true := code_word (m := ⟨1, 2⟩) (meth := k1m2) (c := k1c2) (by decide +kernel) rfl rfl rfl (by decide +kernel)
set_option maxRecDepth 65536 in
theorem w_c2 : (Jvm.Cond.code ({ cls := "com/example/tickwire/tickwire/core/WholeNumberParsePinLaw", name := "reference", desc := "([BIII)J" } : Jvm.MethodName) method_6_code (12 : Nat) (Option.some Jvm.ClassFile.FieldType.long)).before args0 about1 = true := code_word (m := ⟨1, 5⟩) (meth := k1m5) (c := k1c5) (by decide +kernel) rfl rfl rfl (by decide +kernel)
set_option maxRecDepth 65536 in
theorem w_c3 : (Jvm.Cond.code ({ cls := "com/example/tickwire/tickwire/core/WholeNumber", name := "parse", desc := "([BIII)J" } : Jvm.MethodName) prog_47_method_3_code (8 : Nat) (Option.some Jvm.ClassFile.FieldType.long)).before args0 about1 = true := code_word (m := ⟨2, 1⟩) (meth := k2m1) (c := k2c1) (by decide +kernel) rfl rfl rfl (by decide +kernel)
set_option maxRecDepth 65536 in
theorem w_c4 : (Jvm.Cond.code ({ cls := "com/example/tickwire/tickwire/core/WholeNumberParsePinLaw", name := "term", desc := "([BIII)J" } : Jvm.MethodName) method_5_code (5 : Nat) (Option.some Jvm.ClassFile.FieldType.long)).before args0 about1 = true := code_word (m := ⟨1, 4⟩) (meth := k1m4) (c := k1c4) (by decide +kernel) rfl rfl rfl (by decide +kernel)
set_option maxRecDepth 65536 in
theorem w_c5 : (Jvm.Cond.code ({ cls := "com/example/tickwire/tickwire/core/WholeNumberParsePinLaw", name := "pow10", desc := "(I)J" } : Jvm.MethodName) method_4_code (1 : Nat) (Option.some Jvm.ClassFile.FieldType.long)).before args0 about1 = true := code_word (m := ⟨1, 3⟩) (meth := k1m3) (c := k1c3) (by decide +kernel) rfl rfl rfl (by decide +kernel)
def codes1 : List Jvm.Cond := [Jvm.Cond.code x code maxLocals ret, Jvm.Cond.code ({ cls := "com/example/tickwire/tickwire/core/WholeNumberParsePinLaw", name := "draw", desc := "(I)B" } : Jvm.MethodName) method_3_code (1 : Nat) (Option.some Jvm.ClassFile.FieldType.byte), Jvm.Cond.code ({ cls := "com/example/tickwire/tickwire/core/WholeNumberParsePinLaw", name := "reference", desc := "([BIII)J" } : Jvm.MethodName) method_6_code (12 : Nat) (Option.some Jvm.ClassFile.FieldType.long), Jvm.Cond.code ({ cls := "com/example/tickwire/tickwire/core/WholeNumber", name := "parse", desc := "([BIII)J" } : Jvm.MethodName) prog_47_method_3_code (8 : Nat) (Option.some Jvm.ClassFile.FieldType.long), Jvm.Cond.code ({ cls := "com/example/tickwire/tickwire/core/WholeNumberParsePinLaw", name := "term", desc := "([BIII)J" } : Jvm.MethodName) method_5_code (5 : Nat) (Option.some Jvm.ClassFile.FieldType.long), Jvm.Cond.code ({ cls := "com/example/tickwire/tickwire/core/WholeNumberParsePinLaw", name := "pow10", desc := "(I)J" } : Jvm.MethodName) method_4_code (1 : Nat) (Option.some Jvm.ClassFile.FieldType.long)]
set_option maxRecDepth 65536 in
theorem codes_eq : words1.filter isCode = codes1 := rfl
theorem w_codes : ∀ c ∈ words1.filter isCode, c.before args0 about1 = true := by
  rw [codes_eq]
  intro c hc
  simp only [codes1, List.mem_cons, List.not_mem_nil, or_false] at hc
  rcases hc with rfl | rfl | rfl | rfl | rfl | rfl
  · exact w_c0
  · exact w_c1
  · exact w_c2
  · exact w_c3
  · exact w_c4
  · exact w_c5
set_option maxRecDepth 65536 in
theorem w_t1 : (words1.take 24).all (fun c => isCode c || c.before args0 about1) = true := by decide +kernel
set_option maxRecDepth 65536 in
theorem w_t2 : (words1.drop 24).all (fun c => isCode c || c.before args0 about1) = true := by decide +kernel
theorem w_tables : (allAtoms (Jvm.Cond.code x code maxLocals ret :: tables_1)).before args0 about1 = true := by
  rw [allAtoms_all]
  show words1.all (fun c => c.before args0 about1) = true
  refine all_split ?_ w_codes
  rw [← List.take_append_drop 24 words1, List.all_append, w_t1, w_t2]
  rfl
set_option maxRecDepth 65536 in
theorem w_case : (Jvm.Cond.and given_1 narrow_1).before args0 about1 = true := by decide +kernel
theorem w_applies : (headSpec (Jvm.Cond.code x code maxLocals ret :: tables_1) room_1).applies x e0.platform about1 = true :=
  (Spec.applies_iff w_frames).mpr ⟨w_running, w_runnable, w_alone, w_named, w_hears, w_ripe, w_room, w_tables⟩
theorem atStart : AtStart classFile x code maxLocals ret World_1 tables_1 room_1 Calls_1 rest_1 Pre_1 launch0 p0 e0 about1 theMethod args0 below0 :=
  ⟨lists_1, trivial, launch0.admits_env _ _ _, launch0.least_env, fairChoices_fair.cas, fairChoices_fair.clock, w_frames, w_args, w_heap, w_applies, trivial, trivial, w_case⟩
end start1
theorem witness_1 : WitnessClaimed_1 := ⟨start1.p0, start1.e0, start1.about1, start1.theMethod, start1.args0, start1.below0, start1.atStart⟩
end Jvm.Pilot.@@N@@
