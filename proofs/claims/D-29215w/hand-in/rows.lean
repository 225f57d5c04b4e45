section
-- ===== PART A: goes FIRST, ahead of the names: the tables' words, and 'selects' of the private methods out of them =====
/-- a private method of a class that the tables say can be made, by its rows of tables_1 -/
def lw_okq (q : MethodName × Nat) : Prop := (q.1.cls ≠ "java/lang/invoke/MethodHandle" ∧ q.1.cls ≠ "java/lang/invoke/VarHandle") ∧ Cond.instantiable q.1.cls q.2 ∈ tables_1 ∧ Cond.privateMethod q.1 ∈ tables_1 ∧ Cond.instanceMethod q.1 ∈ tables_1
def lw_privs : List (MethodName × Nat) := []
def lw_tbl : List Cond := k2_sels lw_privs ++ tables_1
theorem lw_privs_ok : ∀ q ∈ lw_privs, lw_okq q := fun _ h => absurd h List.not_mem_nil
-- ===== ONE list of words for every method: the tables' words that hold all through a run =====
def lw_all : List Cond := lw_tbl.filter goodWord
/-- a word of the tables by its place: claim/WORDS.tsv -/
theorem lw_w {w : Cond} (i : Nat) (h : lw_tbl[i]? = some w) (g : goodWord w = true) : w ∈ lw_all := List.mem_filter.mpr ⟨List.mem_of_getElem? h, g⟩
theorem lw_all_tbl {w : Cond} (h : w ∈ lw_all) : w ∈ lw_tbl := (List.mem_filter.mp h).1
theorem lw_self : GoodIn lw_all lw_all := fun w h => ⟨h, good_of_word (List.mem_filter.mp h).2⟩
/-- a class's field words, by their places -/
theorem lw_in (ws : List Cond) (ps : List Nat) (hp : ws = ps.filterMap (fun i => lw_tbl[i]?)) (hg : ws.all goodWord = true) : ∀ w ∈ ws, w ∈ lw_all := by
  intro w h
  have h1 := List.all_eq_true.mp hg w h
  rw [hp] at h
  obtain ⟨i, -, hi⟩ := List.mem_filterMap.mp h
  exact lw_w i hi h1
/-- the words of a contract for the method y with code b, L locals, answer r -/
abbrev ws_ (y : MethodName) (b : ByteArray) (L : Nat) (r : Option FieldType) : List Cond := Cond.code y b L r :: lw_all
theorem lw_meth {y : MethodName} {b : ByteArray} {L : Nat} {r : Option FieldType} (h : Cond.code y b L r ∈ lw_all) : GoodIn lw_all (ws_ y b L r) := by
  intro w hw
  rcases List.mem_cons.mp hw with e | e
  · rw [e]
    exact lw_self _ h
  · exact lw_self _ e
theorem lw_app {a c : List Cond} (ha : ∀ w ∈ a, w ∈ lw_all) (hc : GoodIn lw_all c) : GoodIn lw_all (a ++ c) := by
  intro w hw
  rcases List.mem_append.mp hw with e | e
  · exact lw_self w (ha w e)
  · exact hc w e
/-- what a call through an object asks: cwV n hts (lw_V ..) -/
theorem lw_V {own : String} {idx : Nat} {C : String} {y : MethodName} {b : ByteArray} {L : Nat} {r : Option FieldType} (h1 : Cond.methodLink own idx y ∈ lw_all) (h2 : Cond.instanceMethod y ∈ lw_all) (h3 : Cond.selects C y y ∈ lw_all) (h4 : Cond.initialized C ∈ lw_all) (h5 : Cond.code y b L r ∈ lw_all) : GoodIn lw_all (wsV own idx C y (ws_ y b L r)) := by
  refine lw_app ?_ (lw_meth h5)
  intro w hw
  simp only [List.mem_cons, List.not_mem_nil, or_false] at hw
  rcases hw with e | e | e | e
  · rw [e]; exact h1
  · rw [e]; exact h2
  · rw [e]; exact h3
  · rw [e]; exact h4
/-- what a static call asks: va_cwS n hts (lw_S ..) -/
theorem lw_S {own : String} {idx : Nat} {y : MethodName} {b : ByteArray} {L : Nat} {r : Option FieldType} (h1 : Cond.methodLink own idx y ∈ lw_all) (h2 : Cond.static y ∈ lw_all) (h3 : Cond.initialized y.cls ∈ lw_all) (h4 : Cond.code y b L r ∈ lw_all) : GoodIn lw_all (va_wsS own idx y (ws_ y b L r)) := by
  refine lw_app ?_ (lw_meth h4)
  intro w hw
  simp only [List.mem_cons, List.not_mem_nil, or_false] at hw
  rcases hw with e | e | e
  · rw [e]; exact h1
  · rw [e]; exact h2
  · rw [e]; exact h3
/-- the words of a contract for a method WITH HANDLERS (hh: its table) -/
abbrev wsW_ (y : MethodName) (b : ByteArray) (L : Nat) (r : Option FieldType) (hh : List (Nat × Nat × Nat × Nat)) : List Cond := Cond.codeWith y b L r hh :: lw_all
theorem lw_methW {y : MethodName} {b : ByteArray} {L : Nat} {r : Option FieldType} {hh : List (Nat × Nat × Nat × Nat)} (h : Cond.codeWith y b L r hh ∈ lw_all) : GoodIn lw_all (wsW_ y b L r hh) := by
  intro w hw
  rcases List.mem_cons.mp hw with e | e
  · rw [e]
    exact lw_self _ h
  · exact lw_self _ e
/-- any list of words by their places (lw_in), good -/
theorem lw_good {ws : List Cond} (h : ∀ w ∈ ws, w ∈ lw_all) : GoodIn lw_all ws := fun w hw => lw_self w (h w hw)
/-- what a call of a method with handlers asks: vx_cwVW n hts (lw_VW ..), vx_cwSW n hts (lw_SW ..) -/
theorem lw_VW {own : String} {idx : Nat} {C : String} {y : MethodName} {b : ByteArray} {L : Nat} {r : Option FieldType} {hh : List (Nat × Nat × Nat × Nat)} (h1 : Cond.methodLink own idx y ∈ lw_all) (h2 : Cond.instanceMethod y ∈ lw_all) (h3 : Cond.selects C y y ∈ lw_all) (h4 : Cond.initialized C ∈ lw_all) (h5 : Cond.codeWith y b L r hh ∈ lw_all) : GoodIn lw_all (wsV own idx C y (wsW_ y b L r hh)) := by
  refine lw_app ?_ (lw_methW h5)
  intro w hw
  simp only [List.mem_cons, List.not_mem_nil, or_false] at hw
  rcases hw with e | e | e | e
  · rw [e]; exact h1
  · rw [e]; exact h2
  · rw [e]; exact h3
  · rw [e]; exact h4
theorem lw_SW {own : String} {idx : Nat} {y : MethodName} {b : ByteArray} {L : Nat} {r : Option FieldType} {hh : List (Nat × Nat × Nat × Nat)} (h1 : Cond.methodLink own idx y ∈ lw_all) (h2 : Cond.static y ∈ lw_all) (h3 : Cond.initialized y.cls ∈ lw_all) (h4 : Cond.codeWith y b L r hh ∈ lw_all) : GoodIn lw_all (va_wsS own idx y (wsW_ y b L r hh)) := by
  refine lw_app ?_ (lw_methW h4)
  intro w hw
  simp only [List.mem_cons, List.not_mem_nil, or_false] at hw
  rcases hw with e | e | e
  · rw [e]; exact h1
  · rw [e]; exact h2
  · rw [e]; exact h3
/-- a word by its place in its run of the tables -/
theorem lw_at {r : List Cond} (hr : ∀ w ∈ r, w ∈ lw_tbl) {w : Cond} (i : Nat) (h : r[i]? = some w) : w ∈ lw_tbl := hr w (List.mem_of_getElem? h)
theorem lw_g {w : Cond} (h : w ∈ lw_tbl) (g : goodWord w = true) : w ∈ lw_all := List.mem_filter.mpr ⟨h, g⟩
theorem lw_ms : ∀ w ∈ k2_sels lw_privs, w ∈ lw_tbl := fun w h => show w ∈ k2_sels lw_privs ++ tables_1 from List.mem_append_left _ h
theorem lw_m0 : ∀ w ∈ tables_1, w ∈ lw_tbl := fun w h => show w ∈ k2_sels lw_privs ++ tables_1 from List.mem_append_right (k2_sels lw_privs) h
end
section
/-! WHAT THE METHODS COMPUTE, exactly, on Int32: names gf_ (GF), mp_ (the reference), bf_ (ByteField) -/
/-- the logical shift right of an int -/
def ff_us (x y : Int32) : Int32 := (x.toUInt32 >>> (y.toUInt32 &&& Int32.toUInt32 31)).toInt32
/-- GF.reduce: one step at bit i -/
def gf_rs (i x : Int32) : Int32 := x ^^^ (-(ff_us x i &&& 1) &&& ((285 : Int32) <<< ((i - 8) &&& 31)))
def gf_rl : Nat → Int32 → Int32
  | 0, x => x
  | k + 1, x => gf_rl k (gf_rs (nI (k + 8)) x)
def gf_red (x : Int32) : Int32 := gf_rl 7 x &&& 255
/-- GF.mul: one step at bit i -/
def gf_ms (a b i p : Int32) : Int32 := p ^^^ (-(ff_us b i &&& 1) &&& (a <<< (i &&& 31)))
def gf_ml (a b : Int32) : Nat → Int32 → Int32
  | 0, p => p
  | n + 1, p => gf_ml a b n (gf_ms a b (nI (7 - n)) p)
def gf_mul (a b : Int32) : Int32 := gf_red (gf_ml a b 8 0)
/-- GF.sqr: one spreading -/
def gf_sp (k m x : Int32) : Int32 := (x ||| (x <<< (k &&& 31))) &&& m
def gf_sqr (a : Int32) : Int32 := gf_red (gf_sp 1 21845 (gf_sp 2 13107 (gf_sp 4 3855 a)))
/-- GF.inv: x to x * x * a -/
def gf_is (a x : Int32) : Int32 := gf_mul (gf_sqr x) a
def gf_inv (a : Int32) : Int32 := gf_sqr (gf_is a (gf_is a (gf_is a (gf_is a (gf_is a (gf_is a a))))))
/-- the reference's product: one step of its first loop, of its second -/
def mp_s1 (a b i p : Int32) : Int32 := if (b >>> (i &&& 31)) &&& 1 = 1 then p ^^^ (a <<< (i &&& 31)) else p
def mp_l1 (a b : Int32) : Nat → Int32 → Int32
  | 0, p => p
  | n + 1, p => mp_l1 a b n (mp_s1 a b (nI (7 - n)) p)
def mp_s2 (i x : Int32) : Int32 := if (x >>> (i &&& 31)) &&& 1 = 1 then x ^^^ ((285 : Int32) <<< ((i - 8) &&& 31)) else x
def mp_l2 : Nat → Int32 → Int32
  | 0, x => x
  | k + 1, x => mp_l2 k (mp_s2 (nI (k + 8)) x)
def mp_prod (a b : Int32) : Int32 := mp_l2 7 (mp_l1 a b 8 0)
/-- the reference's quotient: n places are left to look at -/
def mp_ql (a b : Int32) : Nat → Int32
  | 0 => -1
  | n + 1 => if mp_prod (nI (255 - n)) b = a then nI (255 - n) else mp_ql a b n
def mp_quo (a b : Int32) : Int32 := mp_ql a b 256
/-- the reference's power: n factors are left -/
def mp_pl (h : Int32) : Nat → Int32 → Int32
  | 0, z => z
  | n + 1, z => mp_pl h n (mp_prod z h)
/-- ByteField.power: the exponent k is left -/
def bf_pl : Nat → Nat → Int32 → Int32 → Int32
  | 0, _, z, _ => z
  | f + 1, k, z, x => if k = 0 then z else bf_pl f (k / 2) (if k % 2 = 1 then gf_mul z x else z) (gf_sqr x)
end
section
/-! THE PLAIN LAW: the field of 256 elements on Nat, linear in both factors; gf_ and mp_ both compute it -/
def fn_s (a b i p : Nat) : Nat := bif b.testBit i then p ^^^ (a <<< i) else p
def fn_l (a b : Nat) : Nat → Nat → Nat
  | 0, p => p
  | n + 1, p => fn_l a b n (fn_s a b (7 - n) p)
def fn_r (k x : Nat) : Nat := bif x.testBit (k + 8) then x ^^^ (285 <<< k) else x
def fn_rl : Nat → Nat → Nat
  | 0, x => x
  | k + 1, x => fn_rl k (fn_r k x)
def fn_m (a b : Nat) : Nat := fn_rl 7 (fn_l a b 8 0)
-- xor
theorem fx_1 (x y c : Nat) : (x ^^^ y) ^^^ c = x ^^^ (y ^^^ c) := Nat.xor_assoc x y c
theorem fx_2 (x y c : Nat) : (x ^^^ y) ^^^ c = (x ^^^ c) ^^^ y := by
  rw [Nat.xor_assoc, Nat.xor_comm y c, ← Nat.xor_assoc]
theorem fx_3 (x y c : Nat) : x ^^^ y = (x ^^^ c) ^^^ (y ^^^ c) := by
  rw [Nat.xor_comm y c, Nat.xor_assoc x c, ← Nat.xor_assoc c c y, Nat.xor_self, Nat.zero_xor]
theorem fx_4 (p q c d : Nat) : (p ^^^ q) ^^^ (c ^^^ d) = (p ^^^ c) ^^^ (q ^^^ d) := by
  rw [Nat.xor_assoc p q, ← Nat.xor_assoc q c d, Nat.xor_comm q c, Nat.xor_assoc c q d, ← Nat.xor_assoc p c]
-- linear
theorem fn_s_la (a a2 b i p p2 : Nat) : fn_s (a ^^^ a2) b i (p ^^^ p2) = fn_s a b i p ^^^ fn_s a2 b i p2 := by
  unfold fn_s
  cases b.testBit i
  · rfl
  · show (p ^^^ p2) ^^^ ((a ^^^ a2) <<< i) = (p ^^^ (a <<< i)) ^^^ (p2 ^^^ (a2 <<< i))
    rw [Nat.shiftLeft_xor_distrib]
    exact fx_4 _ _ _ _
theorem fn_s_lb (a b b2 i p p2 : Nat) : fn_s a (b ^^^ b2) i (p ^^^ p2) = fn_s a b i p ^^^ fn_s a b2 i p2 := by
  unfold fn_s
  rw [Nat.testBit_xor]
  cases b.testBit i <;> cases b2.testBit i
  · rfl
  · exact fx_1 _ _ _
  · exact fx_2 _ _ _
  · exact fx_3 _ _ _
theorem fn_r_lin (k x y : Nat) : fn_r k (x ^^^ y) = fn_r k x ^^^ fn_r k y := by
  unfold fn_r
  rw [Nat.testBit_xor]
  cases x.testBit (k + 8) <;> cases y.testBit (k + 8)
  · rfl
  · exact fx_1 _ _ _
  · exact fx_2 _ _ _
  · exact fx_3 _ _ _
theorem fn_l_la (a a2 b : Nat) : ∀ n p p2 : Nat, fn_l (a ^^^ a2) b n (p ^^^ p2) = fn_l a b n p ^^^ fn_l a2 b n p2 := by
  intro n
  induction n with
  | zero => intro p p2; rfl
  | succ n ih =>
    intro p p2
    show fn_l (a ^^^ a2) b n (fn_s (a ^^^ a2) b (7 - n) (p ^^^ p2)) = fn_l a b n (fn_s a b (7 - n) p) ^^^ fn_l a2 b n (fn_s a2 b (7 - n) p2)
    rw [fn_s_la]
    exact ih _ _
theorem fn_l_lb (a b b2 : Nat) : ∀ n p p2 : Nat, fn_l a (b ^^^ b2) n (p ^^^ p2) = fn_l a b n p ^^^ fn_l a b2 n p2 := by
  intro n
  induction n with
  | zero => intro p p2; rfl
  | succ n ih =>
    intro p p2
    show fn_l a (b ^^^ b2) n (fn_s a (b ^^^ b2) (7 - n) (p ^^^ p2)) = fn_l a b n (fn_s a b (7 - n) p) ^^^ fn_l a b2 n (fn_s a b2 (7 - n) p2)
    rw [fn_s_lb]
    exact ih _ _
theorem fn_rl_lin : ∀ k x y : Nat, fn_rl k (x ^^^ y) = fn_rl k x ^^^ fn_rl k y := by
  intro k
  induction k with
  | zero => intro x y; rfl
  | succ k ih =>
    intro x y
    show fn_rl k (fn_r k (x ^^^ y)) = fn_rl k (fn_r k x) ^^^ fn_rl k (fn_r k y)
    rw [fn_r_lin]
    exact ih _ _
theorem fm_la (a a2 b : Nat) : fn_m (a ^^^ a2) b = fn_m a b ^^^ fn_m a2 b := by
  have h := fn_l_la a a2 b 8 0 0
  rw [Nat.xor_self] at h
  unfold fn_m
  rw [h, fn_rl_lin]
theorem fm_lb (a b b2 : Nat) : fn_m a (b ^^^ b2) = fn_m a b ^^^ fn_m a b2 := by
  have h := fn_l_lb a b b2 8 0 0
  rw [Nat.xor_self] at h
  unfold fn_m
  rw [h, fn_rl_lin]
-- two linear functions that agree on the eight bits agree below 256
theorem fx_bit : ∀ x, x < 256 → ∀ i, i < 8 → x &&& 2 ^ i = 0 ∨ x &&& 2 ^ i = 2 ^ i := by decide +kernel
theorem fx_dec : ∀ x, x < 256 → x = (x &&& 1) ^^^ ((x &&& 2) ^^^ ((x &&& 4) ^^^ ((x &&& 8) ^^^ ((x &&& 16) ^^^ ((x &&& 32) ^^^ ((x &&& 64) ^^^ (x &&& 128))))))) := by decide +kernel
theorem fx_zero {f : Nat → Nat} (hf : ∀ x y, f (x ^^^ y) = f x ^^^ f y) : f 0 = 0 := by
  have h := hf 0 0
  rw [Nat.xor_self (f 0), Nat.xor_self 0] at h
  exact h
theorem lin_8 {f g : Nat → Nat} (hf : ∀ x y, f (x ^^^ y) = f x ^^^ f y) (hg : ∀ x y, g (x ^^^ y) = g x ^^^ g y) {y0 y1 y2 y3 y4 y5 y6 y7 : Nat} (p0 : f y0 = g y0) (p1 : f y1 = g y1) (p2 : f y2 = g y2) (p3 : f y3 = g y3) (p4 : f y4 = g y4) (p5 : f y5 = g y5) (p6 : f y6 = g y6) (p7 : f y7 = g y7) :
    f (y0 ^^^ (y1 ^^^ (y2 ^^^ (y3 ^^^ (y4 ^^^ (y5 ^^^ (y6 ^^^ y7))))))) = g (y0 ^^^ (y1 ^^^ (y2 ^^^ (y3 ^^^ (y4 ^^^ (y5 ^^^ (y6 ^^^ y7))))))) := by
  rw [hf, hf, hf, hf, hf, hf, hf, hg, hg, hg, hg, hg, hg, hg, p0, p1, p2, p3, p4, p5, p6, p7]
theorem lin_ext {f g : Nat → Nat} (hf : ∀ x y, f (x ^^^ y) = f x ^^^ f y) (hg : ∀ x y, g (x ^^^ y) = g x ^^^ g y) (h : ∀ i, i < 8 → f (2 ^ i) = g (2 ^ i)) : ∀ x, x < 256 → f x = g x := by
  intro x hx
  have pt : ∀ i, i < 8 → f (x &&& 2 ^ i) = g (x &&& 2 ^ i) := fun i hi => by
    rcases fx_bit x hx i hi with e | e
    · rw [e, fx_zero hf, fx_zero hg]
    · rw [e]
      exact h i hi
  have p0 : f (x &&& 1) = g (x &&& 1) := pt 0 (by decide)
  have p1 : f (x &&& 2) = g (x &&& 2) := pt 1 (by decide)
  have p2 : f (x &&& 4) = g (x &&& 4) := pt 2 (by decide)
  have p3 : f (x &&& 8) = g (x &&& 8) := pt 3 (by decide)
  have p4 : f (x &&& 16) = g (x &&& 16) := pt 4 (by decide)
  have p5 : f (x &&& 32) = g (x &&& 32) := pt 5 (by decide)
  have p6 : f (x &&& 64) = g (x &&& 64) := pt 6 (by decide)
  have p7 : f (x &&& 128) = g (x &&& 128) := pt 7 (by decide)
  have q := fx_dec x hx
  rw [q]
  exact lin_8 hf hg p0 p1 p2 p3 p4 p5 p6 p7
-- below 256
theorem fm_lt0 : ∀ i, i < 8 → ∀ j, j < 8 → fn_m (2 ^ i) (2 ^ j) &&& 255 = fn_m (2 ^ i) (2 ^ j) := by decide +kernel
theorem fm_and {a b : Nat} (ha : a < 256) (hb : b < 256) : fn_m a b &&& 255 = fn_m a b := by
  refine lin_ext (f := fun x => fn_m x b &&& 255) (g := fun x => fn_m x b) (fun x y => ?_) (fun x y => ?_) (fun i hi => ?_) a ha
  · show fn_m (x ^^^ y) b &&& 255 = (fn_m x b &&& 255) ^^^ (fn_m y b &&& 255)
    rw [fm_la, Nat.and_xor_distrib_right]
  · exact fm_la x y b
  · refine lin_ext (f := fun x => fn_m (2 ^ i) x &&& 255) (g := fun x => fn_m (2 ^ i) x) (fun x y => ?_) (fun x y => ?_) (fun j hj => ?_) b hb
    · show fn_m (2 ^ i) (x ^^^ y) &&& 255 = (fn_m (2 ^ i) x &&& 255) ^^^ (fn_m (2 ^ i) y &&& 255)
      rw [fm_lb, Nat.and_xor_distrib_right]
    · exact fm_lb (2 ^ i) x y
    · exact fm_lt0 i hi j hj
theorem fm_lt {a b : Nat} (ha : a < 256) (hb : b < 256) : fn_m a b < 256 := by
  rw [← fm_and ha hb]
  exact Nat.lt_of_le_of_lt Nat.and_le_right (by decide)
-- associative
theorem fm_as0 : ∀ i, i < 8 → ∀ j, j < 8 → ∀ k, k < 8 → fn_m (fn_m (2 ^ i) (2 ^ j)) (2 ^ k) = fn_m (2 ^ i) (fn_m (2 ^ j) (2 ^ k)) := by decide +kernel
theorem fm_assoc {a b c : Nat} (ha : a < 256) (hb : b < 256) (hc : c < 256) : fn_m (fn_m a b) c = fn_m a (fn_m b c) := by
  refine lin_ext (f := fun x => fn_m (fn_m x b) c) (g := fun x => fn_m x (fn_m b c)) (fun x y => ?_) (fun x y => ?_) (fun i hi => ?_) a ha
  · show fn_m (fn_m (x ^^^ y) b) c = fn_m (fn_m x b) c ^^^ fn_m (fn_m y b) c
    rw [fm_la, fm_la]
  · exact fm_la x y _
  · refine lin_ext (f := fun x => fn_m (fn_m (2 ^ i) x) c) (g := fun x => fn_m (2 ^ i) (fn_m x c)) (fun x y => ?_) (fun x y => ?_) (fun j hj => ?_) b hb
    · show fn_m (fn_m (2 ^ i) (x ^^^ y)) c = fn_m (fn_m (2 ^ i) x) c ^^^ fn_m (fn_m (2 ^ i) y) c
      rw [fm_lb, fm_la]
    · show fn_m (2 ^ i) (fn_m (x ^^^ y) c) = fn_m (2 ^ i) (fn_m x c) ^^^ fn_m (2 ^ i) (fn_m y c)
      rw [fm_la, fm_lb]
    · refine lin_ext (f := fun x => fn_m (fn_m (2 ^ i) (2 ^ j)) x) (g := fun x => fn_m (2 ^ i) (fn_m (2 ^ j) x)) (fun x y => ?_) (fun x y => ?_) (fun k hk => ?_) c hc
      · exact fm_lb _ x y
      · show fn_m (2 ^ i) (fn_m (2 ^ j) (x ^^^ y)) = fn_m (2 ^ i) (fn_m (2 ^ j) x) ^^^ fn_m (2 ^ i) (fn_m (2 ^ j) y)
        rw [fm_lb, fm_lb]
      · exact fm_as0 i hi j hj k hk
theorem fm_1r : ∀ a, a < 256 → fn_m a 1 = a := by decide +kernel
theorem fm_1l : ∀ a, a < 256 → fn_m 1 a = a := by decide +kernel
-- the inverse
def fn_is (a x : Nat) : Nat := fn_m (fn_m x x) a
def fn_i6 (a : Nat) : Nat := fn_is a (fn_is a (fn_is a (fn_is a (fn_is a (fn_is a a)))))
def fn_inv (a : Nat) : Nat := fn_m (fn_i6 a) (fn_i6 a)
theorem fn_inv_l : ∀ a, a < 256 → a ≠ 0 → fn_m (fn_inv a) a = 1 := by decide +kernel
theorem fn_inv_r : ∀ a, a < 256 → a ≠ 0 → fn_m a (fn_inv a) = 1 := by decide +kernel
theorem fn_is_lt {a x : Nat} (ha : a < 256) (hx : x < 256) : fn_is a x < 256 := fm_lt (fm_lt hx hx) ha
theorem fn_i6_lt {a : Nat} (ha : a < 256) : fn_i6 a < 256 := fn_is_lt ha (fn_is_lt ha (fn_is_lt ha (fn_is_lt ha (fn_is_lt ha (fn_is_lt ha ha)))))
theorem fn_inv_lt {a : Nat} (ha : a < 256) : fn_inv a < 256 := fm_lt (fn_i6_lt ha) (fn_i6_lt ha)
/-- a divided by b is the one z with z * b = a -/
theorem fn_div {a b : Nat} (ha : a < 256) (hb : b < 256) (h0 : b ≠ 0) : fn_m (fn_m a (fn_inv b)) b = a ∧ ∀ z, z < 256 → fn_m z b = a → z = fn_m a (fn_inv b) := by
  constructor
  · rw [fm_assoc ha (fn_inv_lt hb) hb, fn_inv_l b hb h0, fm_1r a ha]
  · intro z hz e
    rw [← e, fm_assoc hz hb (fn_inv_lt hb), fn_inv_r b hb h0, fm_1r z hz]
-- powers
def fn_p (x : Nat) : Nat → Nat
  | 0 => 1
  | n + 1 => fn_m (fn_p x n) x
theorem fn_p_lt {x : Nat} (hx : x < 256) : ∀ n, fn_p x n < 256 := by
  intro n
  induction n with
  | zero => exact (by decide : 1 < 256)
  | succ n ih => exact fm_lt ih hx
theorem fn_p_comm {x : Nat} (hx : x < 256) : ∀ n, fn_m x (fn_p x n) = fn_m (fn_p x n) x := by
  intro n
  induction n with
  | zero =>
    show fn_m x 1 = fn_m 1 x
    rw [fm_1r x hx, fm_1l x hx]
  | succ n ih =>
    show fn_m x (fn_m (fn_p x n) x) = fn_m (fn_m (fn_p x n) x) x
    rw [← fm_assoc hx (fn_p_lt hx n) hx, ih]
theorem fn_p_dbl {x : Nat} (hx : x < 256) : ∀ n, fn_p (fn_m x x) n = fn_p x (2 * n) := by
  intro n
  induction n with
  | zero => rfl
  | succ n ih =>
    rw [show 2 * (n + 1) = 2 * n + 1 + 1 by omega]
    show fn_m (fn_p (fn_m x x) n) (fn_m x x) = fn_m (fn_m (fn_p x (2 * n)) x) x
    rw [ih, fm_assoc (fn_p_lt hx _) hx hx]
end
section
/-! FROM Int32 TO Nat: gf_ and mp_ compute fn_m -/
theorem ff_xor (a b : Nat) : nI a ^^^ nI b = nI (a ^^^ b) := by
  apply Int32.toBitVec_inj.mp
  show BitVec.ofNat 32 a ^^^ BitVec.ofNat 32 b = BitVec.ofNat 32 (a ^^^ b)
  exact BitVec.ofNat_xor.symm
theorem ff_sl : ∀ n, n < 32 → ((nI n &&& 31).toBitVec.smod 32).toNat = n := by decide +kernel
theorem ff_su : ∀ n, n < 32 → (((nI n).toUInt32 &&& Int32.toUInt32 31).toBitVec % 32).toNat = n := by decide +kernel
theorem ff_ushr {b i : Nat} (hb : b < 2 ^ 31) (hi : i < 32) : ff_us (nI b) (nI i) = nI (b / 2 ^ i) := pk_ushrN (by omega) (nI i) i (ff_su i hi)
theorem ff_shr {b i : Nat} (hb : b < 2 ^ 31) (hi : i < 32) : nI b >>> (nI i &&& 31) = nI (b / 2 ^ i) := pk_shrN hb (nI i &&& 31) i (ff_sl i hi)
theorem ff_shl {a i : Nat} (hi : i < 32) (h : a <<< i < 2 ^ 31) : nI a <<< (nI i &&& 31) = nI (a <<< i) := by
  rw [Nat.shiftLeft_eq] at h ⊢
  exact pk_shlN (nI i &&& 31) i (ff_sl i hi) (by omega)
theorem ff_and1 {n : Nat} (h : n < 2 ^ 31) : nI n &&& 1 = nI (n % 2) := pk_andN (by omega) 1 (by decide)
theorem ff_and255 {n : Nat} (h : n < 2 ^ 31) : nI n &&& 255 = nI (n % 256) := pk_andN (by omega) 8 (by decide)
theorem ff_m0 (y : Int32) : -(nI 0) &&& y = 0 := by
  rw [show -(nI 0) = (0 : Int32) by decide]
  exact Int32.zero_and
theorem ff_m1 (y : Int32) : -(nI 1) &&& y = y := by
  rw [show -(nI 1) = (-1 : Int32) by decide]
  exact Int32.neg_one_and
theorem ff_x0 (p : Int32) : p ^^^ 0 = p := Int32.xor_zero
/-- GF's step is a choice by the bit -/
theorem ff_sel {b i : Nat} (hb : b < 2 ^ 31) (hi : i < 32) (p y : Int32) : p ^^^ (-(ff_us (nI b) (nI i) &&& 1) &&& y) = bif b.testBit i then p ^^^ y else p := by
  have hd : b / 2 ^ i < 2 ^ 31 := Nat.lt_of_le_of_lt (Nat.div_le_self _ _) hb
  rw [ff_ushr hb hi, ff_and1 hd, Nat.testBit_eq_decide_div_mod_eq]
  rcases Nat.mod_two_eq_zero_or_one (b / 2 ^ i) with e | e
  · rw [e, ff_m0, ff_x0]
    rfl
  · rw [e, ff_m1]
    rfl
/-- the reference's step, too -/
theorem ff_sel2 {b i : Nat} (hb : b < 2 ^ 31) (hi : i < 32) (p y : Int32) : (if (nI b >>> (nI i &&& 31)) &&& 1 = 1 then p ^^^ y else p) = bif b.testBit i then p ^^^ y else p := by
  have hd : b / 2 ^ i < 2 ^ 31 := Nat.lt_of_le_of_lt (Nat.div_le_self _ _) hb
  rw [ff_shr hb hi, ff_and1 hd, Nat.testBit_eq_decide_div_mod_eq]
  rcases Nat.mod_two_eq_zero_or_one (b / 2 ^ i) with e | e
  · rw [e, if_neg (by decide)]
    rfl
  · rw [e, if_pos (by decide)]
    rfl
theorem ff_cond (t : Bool) (p q : Nat) : (bif t then nI p ^^^ nI q else nI p) = nI (bif t then p ^^^ q else p) := by
  cases t
  · rfl
  · exact ff_xor p q
theorem ff_sh8 : ∀ a, a < 256 → ∀ i, i < 8 → a <<< i < 2 ^ 31 := by
  intro a ha i hi
  rw [Nat.shiftLeft_eq]
  have h : 2 ^ i ≤ 2 ^ 7 := Nat.pow_le_pow_right (by decide) (by omega)
  have h2 : a * 2 ^ i ≤ 256 * 2 ^ 7 := Nat.mul_le_mul (by omega) h
  exact Nat.lt_of_le_of_lt h2 (by decide)
theorem ff_s285 : ∀ k, k < 7 → 285 <<< k < 2 ^ 31 := by decide +kernel
theorem ff_m8 (k : Nat) : nI (k + 8) - 8 = nI k := by
  have h := pk_sub (a := k + 8) (b := 8) (by omega)
  rw [Nat.add_sub_cancel] at h
  exact h
theorem gf_ms_n {a b i p : Nat} (ha : a < 256) (hb : b < 2 ^ 31) (hi : i < 8) : gf_ms (nI a) (nI b) (nI i) (nI p) = nI (fn_s a b i p) := by
  unfold gf_ms fn_s
  rw [ff_sel hb (by omega), ff_shl (by omega) (ff_sh8 a ha i hi)]
  exact ff_cond _ _ _
theorem mp_s1_n {a b i p : Nat} (ha : a < 256) (hb : b < 2 ^ 31) (hi : i < 8) : mp_s1 (nI a) (nI b) (nI i) (nI p) = nI (fn_s a b i p) := by
  unfold mp_s1 fn_s
  rw [ff_sel2 hb (by omega), ff_shl (by omega) (ff_sh8 a ha i hi)]
  exact ff_cond _ _ _
theorem gf_rs_n {k x : Nat} (hk : k < 7) (hx : x < 2 ^ 31) : gf_rs (nI (k + 8)) (nI x) = nI (fn_r k x) := by
  unfold gf_rs fn_r
  rw [ff_sel hx (by omega), ff_m8, show (285 : Int32) = nI 285 from rfl, ff_shl (by omega) (ff_s285 k hk)]
  exact ff_cond _ _ _
theorem mp_s2_n {k x : Nat} (hk : k < 7) (hx : x < 2 ^ 31) : mp_s2 (nI (k + 8)) (nI x) = nI (fn_r k x) := by
  unfold mp_s2 fn_r
  rw [ff_sel2 hx (by omega), ff_m8, show (285 : Int32) = nI 285 from rfl, ff_shl (by omega) (ff_s285 k hk)]
  exact ff_cond _ _ _
theorem gf_ml_n {a b : Nat} (ha : a < 256) (hb : b < 2 ^ 31) : ∀ n p : Nat, n ≤ 8 → gf_ml (nI a) (nI b) n (nI p) = nI (fn_l a b n p) := by
  intro n
  induction n with
  | zero => intro p h; rfl
  | succ n ih =>
    intro p h
    show gf_ml (nI a) (nI b) n (gf_ms (nI a) (nI b) (nI (7 - n)) (nI p)) = nI (fn_l a b n (fn_s a b (7 - n) p))
    rw [gf_ms_n ha hb (by omega)]
    exact ih _ (by omega)
theorem mp_l1_n {a b : Nat} (ha : a < 256) (hb : b < 2 ^ 31) : ∀ n p : Nat, n ≤ 8 → mp_l1 (nI a) (nI b) n (nI p) = nI (fn_l a b n p) := by
  intro n
  induction n with
  | zero => intro p h; rfl
  | succ n ih =>
    intro p h
    show mp_l1 (nI a) (nI b) n (mp_s1 (nI a) (nI b) (nI (7 - n)) (nI p)) = nI (fn_l a b n (fn_s a b (7 - n) p))
    rw [mp_s1_n ha hb (by omega)]
    exact ih _ (by omega)
theorem fn_r_lt {k x : Nat} (hk : k < 7) (hx : x < 2 ^ 31) : fn_r k x < 2 ^ 31 := by
  unfold fn_r
  cases x.testBit (k + 8)
  · exact hx
  · exact Nat.xor_lt_two_pow hx (ff_s285 k hk)
theorem fn_s_lt {a b i p : Nat} (ha : a < 256) (hi : i < 8) (hp : p < 2 ^ 31) : fn_s a b i p < 2 ^ 31 := by
  unfold fn_s
  cases b.testBit i
  · exact hp
  · exact Nat.xor_lt_two_pow hp (ff_sh8 a ha i hi)
theorem fn_l_lt {a b : Nat} (ha : a < 256) : ∀ n p : Nat, n ≤ 8 → p < 2 ^ 31 → fn_l a b n p < 2 ^ 31 := by
  intro n
  induction n with
  | zero => intro p h hp; exact hp
  | succ n ih =>
    intro p h hp
    exact ih _ (by omega) (fn_s_lt ha (by omega) hp)
theorem gf_rl_n : ∀ k x : Nat, k ≤ 7 → x < 2 ^ 31 → gf_rl k (nI x) = nI (fn_rl k x) := by
  intro k
  induction k with
  | zero => intro x h hx; rfl
  | succ k ih =>
    intro x h hx
    show gf_rl k (gf_rs (nI (k + 8)) (nI x)) = nI (fn_rl k (fn_r k x))
    rw [gf_rs_n (by omega) hx]
    exact ih _ (by omega) (fn_r_lt (by omega) hx)
theorem mp_l2_n : ∀ k x : Nat, k ≤ 7 → x < 2 ^ 31 → mp_l2 k (nI x) = nI (fn_rl k x) := by
  intro k
  induction k with
  | zero => intro x h hx; rfl
  | succ k ih =>
    intro x h hx
    show mp_l2 k (mp_s2 (nI (k + 8)) (nI x)) = nI (fn_rl k (fn_r k x))
    rw [mp_s2_n (by omega) hx]
    exact ih _ (by omega) (fn_r_lt (by omega) hx)
theorem mp_prod_n {a b : Nat} (ha : a < 256) (hb : b < 256) : mp_prod (nI a) (nI b) = nI (fn_m a b) := by
  unfold mp_prod fn_m
  rw [show (0 : Int32) = nI 0 from rfl, mp_l1_n ha (by omega) 8 0 (by omega)]
  exact mp_l2_n 7 _ (by omega) (fn_l_lt ha 8 0 (by omega) (by decide))
theorem gf_mul_n {a b : Nat} (ha : a < 256) (hb : b < 256) : gf_mul (nI a) (nI b) = nI (fn_m a b) := by
  have h1 : gf_ml (nI a) (nI b) 8 0 = nI (fn_l a b 8 0) := gf_ml_n ha (by omega) 8 0 (by omega)
  have h2 : gf_rl 7 (nI (fn_l a b 8 0)) = nI (fn_m a b) := gf_rl_n 7 _ (by omega) (fn_l_lt ha 8 0 (by omega) (by decide))
  have h3 : fn_m a b < 256 := fm_lt ha hb
  unfold gf_mul gf_red
  rw [h1, h2, ff_and255 (by omega), Nat.mod_eq_of_lt h3]
theorem gf_sqr_n : ∀ a, a < 256 → gf_sqr (nI a) = nI (fn_m a a) := by decide +kernel
theorem gf_is_n {a x : Nat} (ha : a < 256) (hx : x < 256) : gf_is (nI a) (nI x) = nI (fn_is a x) := by
  unfold gf_is fn_is
  rw [gf_sqr_n x hx, gf_mul_n (fm_lt hx hx) ha]
theorem gf_inv_n {a : Nat} (ha : a < 256) : gf_inv (nI a) = nI (fn_inv a) := by
  have h1 := fn_is_lt ha ha
  have h2 := fn_is_lt ha h1
  have h3 := fn_is_lt ha h2
  have h4 := fn_is_lt ha h3
  have h5 := fn_is_lt ha h4
  have h6 := fn_is_lt ha h5
  unfold gf_inv
  rw [gf_is_n ha ha, gf_is_n ha h1, gf_is_n ha h2, gf_is_n ha h3, gf_is_n ha h4, gf_is_n ha h5, gf_sqr_n _ h6]
  rfl
/-- the reference's search -/
theorem mp_ql_n {a b q : Nat} (ha : a < 256) (hb : b < 256) (hq : q < 256) (he : fn_m q b = a) (hu : ∀ z, z < 256 → fn_m z b = a → z = q) : ∀ n : Nat, n ≤ 256 → 256 ≤ q + n → mp_ql (nI a) (nI b) n = nI q := by
  intro n
  induction n with
  | zero => intro h h2; exact absurd h2 (by omega)
  | succ n ih =>
    intro h h2
    show (if mp_prod (nI (255 - n)) (nI b) = nI a then nI (255 - n) else mp_ql (nI a) (nI b) n) = nI q
    have hz : 255 - n < 256 := by omega
    rw [mp_prod_n hz hb]
    by_cases hc : fn_m (255 - n) b = a
    · rw [if_pos (by rw [hc]), hu _ hz hc]
    · rw [if_neg (fun h9 => hc ((nI_eq (by have := fm_lt hz hb; omega) (by omega)).mp h9))]
      refine ih (by omega) ?_
      have hne : 255 - n ≠ q := fun h9 => hc (by rw [h9]; exact he)
      omega
theorem mp_quo_n {a b : Nat} (ha : a < 256) (hb : b < 256) (h0 : b ≠ 0) : mp_quo (nI a) (nI b) = nI (fn_m a (fn_inv b)) := by
  obtain ⟨h1, h2⟩ := fn_div ha hb h0
  exact mp_ql_n ha hb (fm_lt ha (fn_inv_lt hb)) h1 h2 256 (by omega) (by omega)
/-- repeated products -/
theorem mp_pl_n {h : Nat} (hh : h < 256) : ∀ n z : Nat, z < 256 → mp_pl (nI h) n (nI z) = nI (fn_m z (fn_p h n)) := by
  intro n
  induction n with
  | zero =>
    intro z hz
    show nI z = nI (fn_m z 1)
    rw [fm_1r z hz]
  | succ n ih =>
    intro z hz
    show mp_pl (nI h) n (mp_prod (nI z) (nI h)) = nI (fn_m z (fn_m (fn_p h n) h))
    rw [mp_prod_n hz hh, ih _ (fm_lt hz hh), fm_assoc hz hh (fn_p_lt hh n), fn_p_comm hh n]
/-- squares and products -/
theorem bf_pl_n : ∀ f k z x : Nat, k < 2 ^ f → z < 256 → x < 256 → bf_pl f k (nI z) (nI x) = nI (fn_m z (fn_p x k)) := by
  intro f
  induction f with
  | zero =>
    intro k z x hk hz hx
    have hk0 : k = 0 := by omega
    subst hk0
    show nI z = nI (fn_m z 1)
    rw [fm_1r z hz]
  | succ f ih =>
    intro k z x hk hz hx
    show (if k = 0 then nI z else bf_pl f (k / 2) (if k % 2 = 1 then gf_mul (nI z) (nI x) else nI z) (gf_sqr (nI x))) = nI (fn_m z (fn_p x k))
    by_cases h0 : k = 0
    · rw [if_pos h0, h0]
      show nI z = nI (fn_m z 1)
      rw [fm_1r z hz]
    · rw [if_neg h0, gf_sqr_n x hx]
      have hk2 : k / 2 < 2 ^ f := by
        have h9 : 2 ^ (f + 1) = 2 * 2 ^ f := by rw [Nat.pow_succ, Nat.mul_comm]
        omega
      by_cases h1 : k % 2 = 1
      · obtain ⟨j, hj⟩ : ∃ j, k = 2 * j + 1 := ⟨k / 2, by omega⟩
        have hj2 : k / 2 = j := by omega
        rw [if_pos h1, gf_mul_n hz hx, ih _ _ _ hk2 (fm_lt hz hx) (fm_lt hx hx), hj2, fn_p_dbl hx, fm_assoc hz hx (fn_p_lt hx _), fn_p_comm hx, hj]
        rfl
      · obtain ⟨j, hj⟩ : ∃ j, k = 2 * j := ⟨k / 2, by omega⟩
        have hj2 : k / 2 = j := by omega
        rw [if_neg h1, ih _ _ _ hk2 hz (fm_lt hx hx), hj2, fn_p_dbl hx, hj]
/-! ===== THE EIGHT CHECKS OF THE LAW ===== -/
theorem ff_byte (x : Int32) : ∃ u : Nat, u < 256 ∧ x &&& 255 = nI u := pk_andE x 8 (by decide)
theorem ff_ne0 {u : Nat} (h : ¬ nI u = 0) : u ≠ 0 := fun e => h (by rw [e]; rfl)
theorem ck_times (a b : Int32) : gf_mul (a &&& 255) (b &&& 255) = mp_prod (a &&& 255) (b &&& 255) := by
  obtain ⟨u, hu, eu⟩ := ff_byte a
  obtain ⟨v, hv, ev⟩ := ff_byte b
  rw [eu, ev, gf_mul_n hu hv, mp_prod_n hu hv]
theorem ck_three (a b c : Int32) : gf_mul (gf_mul (a &&& 255) (b &&& 255)) (c &&& 255) = mp_prod (a &&& 255) (mp_prod (b &&& 255) (c &&& 255)) := by
  obtain ⟨u, hu, eu⟩ := ff_byte a
  obtain ⟨v, hv, ev⟩ := ff_byte b
  obtain ⟨w, hw, ew⟩ := ff_byte c
  rw [eu, ev, ew, gf_mul_n hu hv, gf_mul_n (fm_lt hu hv) hw, mp_prod_n hv hw, mp_prod_n hu (fm_lt hv hw), fm_assoc hu hv hw]
theorem ck_square (a : Int32) : gf_sqr (a &&& 255) = mp_prod (a &&& 255) (a &&& 255) := by
  obtain ⟨u, hu, eu⟩ := ff_byte a
  rw [eu, gf_sqr_n u hu, mp_prod_n hu hu]
theorem ck_inverse (a : Int32) : (if a &&& 255 = 0 then (-1 : Int32) else gf_inv (a &&& 255)) = (if a &&& 255 = 0 then (-1 : Int32) else mp_quo 1 (a &&& 255)) := by
  obtain ⟨u, hu, eu⟩ := ff_byte a
  rw [eu]
  by_cases h : nI u = 0
  · rw [if_pos h, if_pos h]
  · rw [if_neg h, if_neg h, gf_inv_n hu, show (1 : Int32) = nI 1 from rfl, mp_quo_n (by decide) hu (ff_ne0 h), fm_1l _ (fn_inv_lt hu)]
theorem ck_divide (a b : Int32) : (if b &&& 255 = 0 then (-1 : Int32) else gf_mul (a &&& 255) (gf_inv (b &&& 255))) = (if b &&& 255 = 0 then (-1 : Int32) else mp_quo (a &&& 255) (b &&& 255)) := by
  obtain ⟨u, hu, eu⟩ := ff_byte a
  obtain ⟨v, hv, ev⟩ := ff_byte b
  rw [eu, ev]
  by_cases h : nI v = 0
  · rw [if_pos h, if_pos h]
  · rw [if_neg h, if_neg h, gf_inv_n hv, gf_mul_n hu (fn_inv_lt hv), mp_quo_n hu hv (ff_ne0 h)]
theorem ck_fold {h : Nat} (hh : h < 256) (a b : Int32) : ∃ v : Nat, v < 256 ∧ gf_mul (nI h) (a &&& 255) ^^^ (b &&& 255) = nI v ∧ mp_prod (nI h) (a &&& 255) ^^^ (b &&& 255) = nI v := by
  obtain ⟨u, hu, eu⟩ := ff_byte a
  obtain ⟨w, hw, ew⟩ := ff_byte b
  refine ⟨fn_m h u ^^^ w, Nat.xor_lt_two_pow (n := 8) (fm_lt hh hu) hw, ?_, ?_⟩
  · rw [eu, ew, gf_mul_n hh hu, ff_xor]
  · rw [eu, ew, mp_prod_n hh hu, ff_xor]
theorem ck_power {h : Nat} (hh : h < 256) (n : Nat) (hn : n < 256) : bf_pl 8 n 1 (nI h) = mp_pl (nI h) n 1 := by
  rw [show (1 : Int32) = nI 1 from rfl, bf_pl_n 8 n 1 h hn (by decide) hh, mp_pl_n hh n 1 (by decide)]
end
section
/-! java/lang/Object -/
def RJ0 : String := "java/lang/Object"
abbrev cJ0_init : ByteArray := object_method_1_code
def yJ0_init : MethodName := ⟨RJ0, "<init>", "()V"⟩
theorem dJ0_init_0 : decode cJ0_init 0 = .ok (.return_, 1) := by decide +kernel
set_option maxRecDepth 100000 in
theorem q10 : (Jvm.Cond.instanceMethod ({ cls := "java/lang/Object", name := "<init>", desc := "()V" } : Jvm.MethodName)) ∈ lw_all := lw_g (lw_at lw_m0 10 rfl) rfl
set_option maxRecDepth 100000 in
theorem q11 : (Jvm.Cond.code ({ cls := "java/lang/Object", name := "<init>", desc := "()V" } : Jvm.MethodName) object_method_1_code (1 : Nat) (Option.none : Option Jvm.ClassFile.FieldType)) ∈ lw_all := lw_g (lw_at lw_m0 11 rfl) rfl
/-! GF -/
def RX2 : String := "GF"
abbrev cX2_mul : ByteArray := prog_4_method_3_code
def yX2_mul : MethodName := ⟨RX2, "mul", "(II)I"⟩
theorem dX2_mul_0 : decode cX2_mul 0 = .ok (.iconst 0, 1) := by decide +kernel
theorem dX2_mul_1 : decode cX2_mul 1 = .ok (.istore_n 2, 1) := by decide +kernel
theorem dX2_mul_2 : decode cX2_mul 2 = .ok (.iconst 0, 1) := by decide +kernel
theorem dX2_mul_3 : decode cX2_mul 3 = .ok (.istore_n 3, 1) := by decide +kernel
theorem dX2_mul_4 : decode cX2_mul 4 = .ok (.iload_n 3, 1) := by decide +kernel
theorem dX2_mul_5 : decode cX2_mul 5 = .ok (.bipush 8, 2) := by decide +kernel
theorem dX2_mul_7 : decode cX2_mul 7 = .ok (.if_icmp .ge 26, 3) := by decide +kernel
theorem dX2_mul_10 : decode cX2_mul 10 = .ok (.iload_n 1, 1) := by decide +kernel
theorem dX2_mul_11 : decode cX2_mul 11 = .ok (.iload_n 3, 1) := by decide +kernel
theorem dX2_mul_12 : decode cX2_mul 12 = .ok (.iushr, 1) := by decide +kernel
theorem dX2_mul_13 : decode cX2_mul 13 = .ok (.iconst 1, 1) := by decide +kernel
theorem dX2_mul_14 : decode cX2_mul 14 = .ok (.iand, 1) := by decide +kernel
theorem dX2_mul_15 : decode cX2_mul 15 = .ok (.ineg, 1) := by decide +kernel
theorem dX2_mul_16 : decode cX2_mul 16 = .ok (.istore 4, 2) := by decide +kernel
theorem dX2_mul_18 : decode cX2_mul 18 = .ok (.iload_n 2, 1) := by decide +kernel
theorem dX2_mul_19 : decode cX2_mul 19 = .ok (.iload 4, 2) := by decide +kernel
theorem dX2_mul_21 : decode cX2_mul 21 = .ok (.iload_n 0, 1) := by decide +kernel
theorem dX2_mul_22 : decode cX2_mul 22 = .ok (.iload_n 3, 1) := by decide +kernel
theorem dX2_mul_23 : decode cX2_mul 23 = .ok (.ishl, 1) := by decide +kernel
theorem dX2_mul_24 : decode cX2_mul 24 = .ok (.iand, 1) := by decide +kernel
theorem dX2_mul_25 : decode cX2_mul 25 = .ok (.ixor, 1) := by decide +kernel
theorem dX2_mul_26 : decode cX2_mul 26 = .ok (.istore_n 2, 1) := by decide +kernel
theorem dX2_mul_27 : decode cX2_mul 27 = .ok (.iinc 3 1, 3) := by decide +kernel
theorem dX2_mul_30 : decode cX2_mul 30 = .ok (.goto (-26), 3) := by decide +kernel
theorem dX2_mul_33 : decode cX2_mul 33 = .ok (.iload_n 2, 1) := by decide +kernel
theorem dX2_mul_34 : decode cX2_mul 34 = .ok (.invokestatic 9, 3) := by decide +kernel
theorem dX2_mul_37 : decode cX2_mul 37 = .ok (.ireturn, 1) := by decide +kernel
abbrev cX2_reduce : ByteArray := prog_4_method_2_code
def yX2_reduce : MethodName := ⟨RX2, "reduce", "(I)I"⟩
theorem dX2_reduce_0 : decode cX2_reduce 0 = .ok (.bipush 14, 2) := by decide +kernel
theorem dX2_reduce_2 : decode cX2_reduce 2 = .ok (.istore_n 1, 1) := by decide +kernel
theorem dX2_reduce_3 : decode cX2_reduce 3 = .ok (.iload_n 1, 1) := by decide +kernel
theorem dX2_reduce_4 : decode cX2_reduce 4 = .ok (.bipush 8, 2) := by decide +kernel
theorem dX2_reduce_6 : decode cX2_reduce 6 = .ok (.if_icmp .lt 29, 3) := by decide +kernel
theorem dX2_reduce_9 : decode cX2_reduce 9 = .ok (.iload_n 0, 1) := by decide +kernel
theorem dX2_reduce_10 : decode cX2_reduce 10 = .ok (.iload_n 1, 1) := by decide +kernel
theorem dX2_reduce_11 : decode cX2_reduce 11 = .ok (.iushr, 1) := by decide +kernel
theorem dX2_reduce_12 : decode cX2_reduce 12 = .ok (.iconst 1, 1) := by decide +kernel
theorem dX2_reduce_13 : decode cX2_reduce 13 = .ok (.iand, 1) := by decide +kernel
theorem dX2_reduce_14 : decode cX2_reduce 14 = .ok (.ineg, 1) := by decide +kernel
theorem dX2_reduce_15 : decode cX2_reduce 15 = .ok (.istore_n 2, 1) := by decide +kernel
theorem dX2_reduce_16 : decode cX2_reduce 16 = .ok (.iload_n 0, 1) := by decide +kernel
theorem dX2_reduce_17 : decode cX2_reduce 17 = .ok (.iload_n 2, 1) := by decide +kernel
theorem dX2_reduce_18 : decode cX2_reduce 18 = .ok (.sipush 285, 3) := by decide +kernel
theorem dX2_reduce_21 : decode cX2_reduce 21 = .ok (.iload_n 1, 1) := by decide +kernel
theorem dX2_reduce_22 : decode cX2_reduce 22 = .ok (.bipush 8, 2) := by decide +kernel
theorem dX2_reduce_24 : decode cX2_reduce 24 = .ok (.isub, 1) := by decide +kernel
theorem dX2_reduce_25 : decode cX2_reduce 25 = .ok (.ishl, 1) := by decide +kernel
theorem dX2_reduce_26 : decode cX2_reduce 26 = .ok (.iand, 1) := by decide +kernel
theorem dX2_reduce_27 : decode cX2_reduce 27 = .ok (.ixor, 1) := by decide +kernel
theorem dX2_reduce_28 : decode cX2_reduce 28 = .ok (.istore_n 0, 1) := by decide +kernel
theorem dX2_reduce_29 : decode cX2_reduce 29 = .ok (.iinc 1 (-1), 3) := by decide +kernel
theorem dX2_reduce_32 : decode cX2_reduce 32 = .ok (.goto (-29), 3) := by decide +kernel
theorem dX2_reduce_35 : decode cX2_reduce 35 = .ok (.iload_n 0, 1) := by decide +kernel
theorem dX2_reduce_36 : decode cX2_reduce 36 = .ok (.sipush 255, 3) := by decide +kernel
theorem dX2_reduce_39 : decode cX2_reduce 39 = .ok (.iand, 1) := by decide +kernel
theorem dX2_reduce_40 : decode cX2_reduce 40 = .ok (.ireturn, 1) := by decide +kernel
abbrev cX2_mul3 : ByteArray := prog_4_method_4_code
def yX2_mul3 : MethodName := ⟨RX2, "mul3", "(III)I"⟩
theorem dX2_mul3_0 : decode cX2_mul3 0 = .ok (.iload_n 0, 1) := by decide +kernel
theorem dX2_mul3_1 : decode cX2_mul3 1 = .ok (.iload_n 1, 1) := by decide +kernel
theorem dX2_mul3_2 : decode cX2_mul3 2 = .ok (.invokestatic 13, 3) := by decide +kernel
theorem dX2_mul3_5 : decode cX2_mul3 5 = .ok (.iload_n 2, 1) := by decide +kernel
theorem dX2_mul3_6 : decode cX2_mul3 6 = .ok (.invokestatic 13, 3) := by decide +kernel
theorem dX2_mul3_9 : decode cX2_mul3 9 = .ok (.ireturn, 1) := by decide +kernel
abbrev cX2_sqr : ByteArray := prog_4_method_5_code
def yX2_sqr : MethodName := ⟨RX2, "sqr", "(I)I"⟩
theorem dX2_sqr_0 : decode cX2_sqr 0 = .ok (.iload_n 0, 1) := by decide +kernel
theorem dX2_sqr_1 : decode cX2_sqr 1 = .ok (.istore_n 1, 1) := by decide +kernel
theorem dX2_sqr_2 : decode cX2_sqr 2 = .ok (.iload_n 1, 1) := by decide +kernel
theorem dX2_sqr_3 : decode cX2_sqr 3 = .ok (.iload_n 1, 1) := by decide +kernel
theorem dX2_sqr_4 : decode cX2_sqr 4 = .ok (.iconst 4, 1) := by decide +kernel
theorem dX2_sqr_5 : decode cX2_sqr 5 = .ok (.ishl, 1) := by decide +kernel
theorem dX2_sqr_6 : decode cX2_sqr 6 = .ok (.ior, 1) := by decide +kernel
theorem dX2_sqr_7 : decode cX2_sqr 7 = .ok (.sipush 3855, 3) := by decide +kernel
theorem dX2_sqr_10 : decode cX2_sqr 10 = .ok (.iand, 1) := by decide +kernel
theorem dX2_sqr_11 : decode cX2_sqr 11 = .ok (.istore_n 1, 1) := by decide +kernel
theorem dX2_sqr_12 : decode cX2_sqr 12 = .ok (.iload_n 1, 1) := by decide +kernel
theorem dX2_sqr_13 : decode cX2_sqr 13 = .ok (.iload_n 1, 1) := by decide +kernel
theorem dX2_sqr_14 : decode cX2_sqr 14 = .ok (.iconst 2, 1) := by decide +kernel
theorem dX2_sqr_15 : decode cX2_sqr 15 = .ok (.ishl, 1) := by decide +kernel
theorem dX2_sqr_16 : decode cX2_sqr 16 = .ok (.ior, 1) := by decide +kernel
theorem dX2_sqr_17 : decode cX2_sqr 17 = .ok (.sipush 13107, 3) := by decide +kernel
theorem dX2_sqr_20 : decode cX2_sqr 20 = .ok (.iand, 1) := by decide +kernel
theorem dX2_sqr_21 : decode cX2_sqr 21 = .ok (.istore_n 1, 1) := by decide +kernel
theorem dX2_sqr_22 : decode cX2_sqr 22 = .ok (.iload_n 1, 1) := by decide +kernel
theorem dX2_sqr_23 : decode cX2_sqr 23 = .ok (.iload_n 1, 1) := by decide +kernel
theorem dX2_sqr_24 : decode cX2_sqr 24 = .ok (.iconst 1, 1) := by decide +kernel
theorem dX2_sqr_25 : decode cX2_sqr 25 = .ok (.ishl, 1) := by decide +kernel
theorem dX2_sqr_26 : decode cX2_sqr 26 = .ok (.ior, 1) := by decide +kernel
theorem dX2_sqr_27 : decode cX2_sqr 27 = .ok (.sipush 21845, 3) := by decide +kernel
theorem dX2_sqr_30 : decode cX2_sqr 30 = .ok (.iand, 1) := by decide +kernel
theorem dX2_sqr_31 : decode cX2_sqr 31 = .ok (.istore_n 1, 1) := by decide +kernel
theorem dX2_sqr_32 : decode cX2_sqr 32 = .ok (.iload_n 1, 1) := by decide +kernel
theorem dX2_sqr_33 : decode cX2_sqr 33 = .ok (.invokestatic 9, 3) := by decide +kernel
theorem dX2_sqr_36 : decode cX2_sqr 36 = .ok (.ireturn, 1) := by decide +kernel
abbrev cX2_inv : ByteArray := prog_4_method_6_code
def yX2_inv : MethodName := ⟨RX2, "inv", "(I)I"⟩
theorem dX2_inv_0 : decode cX2_inv 0 = .ok (.iload_n 0, 1) := by decide +kernel
theorem dX2_inv_1 : decode cX2_inv 1 = .ok (.invokestatic 17, 3) := by decide +kernel
theorem dX2_inv_4 : decode cX2_inv 4 = .ok (.istore_n 1, 1) := by decide +kernel
theorem dX2_inv_5 : decode cX2_inv 5 = .ok (.iload_n 1, 1) := by decide +kernel
theorem dX2_inv_6 : decode cX2_inv 6 = .ok (.iload_n 0, 1) := by decide +kernel
theorem dX2_inv_7 : decode cX2_inv 7 = .ok (.invokestatic 13, 3) := by decide +kernel
theorem dX2_inv_10 : decode cX2_inv 10 = .ok (.istore_n 2, 1) := by decide +kernel
theorem dX2_inv_11 : decode cX2_inv 11 = .ok (.iload_n 2, 1) := by decide +kernel
theorem dX2_inv_12 : decode cX2_inv 12 = .ok (.invokestatic 17, 3) := by decide +kernel
theorem dX2_inv_15 : decode cX2_inv 15 = .ok (.istore_n 3, 1) := by decide +kernel
theorem dX2_inv_16 : decode cX2_inv 16 = .ok (.iload_n 3, 1) := by decide +kernel
theorem dX2_inv_17 : decode cX2_inv 17 = .ok (.iload_n 0, 1) := by decide +kernel
theorem dX2_inv_18 : decode cX2_inv 18 = .ok (.invokestatic 13, 3) := by decide +kernel
theorem dX2_inv_21 : decode cX2_inv 21 = .ok (.istore 4, 2) := by decide +kernel
theorem dX2_inv_23 : decode cX2_inv 23 = .ok (.iload 4, 2) := by decide +kernel
theorem dX2_inv_25 : decode cX2_inv 25 = .ok (.invokestatic 17, 3) := by decide +kernel
theorem dX2_inv_28 : decode cX2_inv 28 = .ok (.istore 5, 2) := by decide +kernel
theorem dX2_inv_30 : decode cX2_inv 30 = .ok (.iload 5, 2) := by decide +kernel
theorem dX2_inv_32 : decode cX2_inv 32 = .ok (.iload_n 0, 1) := by decide +kernel
theorem dX2_inv_33 : decode cX2_inv 33 = .ok (.invokestatic 13, 3) := by decide +kernel
theorem dX2_inv_36 : decode cX2_inv 36 = .ok (.istore 6, 2) := by decide +kernel
theorem dX2_inv_38 : decode cX2_inv 38 = .ok (.iload 6, 2) := by decide +kernel
theorem dX2_inv_40 : decode cX2_inv 40 = .ok (.invokestatic 17, 3) := by decide +kernel
theorem dX2_inv_43 : decode cX2_inv 43 = .ok (.istore 7, 2) := by decide +kernel
theorem dX2_inv_45 : decode cX2_inv 45 = .ok (.iload 7, 2) := by decide +kernel
theorem dX2_inv_47 : decode cX2_inv 47 = .ok (.iload_n 0, 1) := by decide +kernel
theorem dX2_inv_48 : decode cX2_inv 48 = .ok (.invokestatic 13, 3) := by decide +kernel
theorem dX2_inv_51 : decode cX2_inv 51 = .ok (.istore 8, 2) := by decide +kernel
theorem dX2_inv_53 : decode cX2_inv 53 = .ok (.iload 8, 2) := by decide +kernel
theorem dX2_inv_55 : decode cX2_inv 55 = .ok (.invokestatic 17, 3) := by decide +kernel
theorem dX2_inv_58 : decode cX2_inv 58 = .ok (.istore 9, 2) := by decide +kernel
theorem dX2_inv_60 : decode cX2_inv 60 = .ok (.iload 9, 2) := by decide +kernel
theorem dX2_inv_62 : decode cX2_inv 62 = .ok (.iload_n 0, 1) := by decide +kernel
theorem dX2_inv_63 : decode cX2_inv 63 = .ok (.invokestatic 13, 3) := by decide +kernel
theorem dX2_inv_66 : decode cX2_inv 66 = .ok (.istore 10, 2) := by decide +kernel
theorem dX2_inv_68 : decode cX2_inv 68 = .ok (.iload 10, 2) := by decide +kernel
theorem dX2_inv_70 : decode cX2_inv 70 = .ok (.invokestatic 17, 3) := by decide +kernel
theorem dX2_inv_73 : decode cX2_inv 73 = .ok (.istore 11, 2) := by decide +kernel
theorem dX2_inv_75 : decode cX2_inv 75 = .ok (.iload 11, 2) := by decide +kernel
theorem dX2_inv_77 : decode cX2_inv 77 = .ok (.iload_n 0, 1) := by decide +kernel
theorem dX2_inv_78 : decode cX2_inv 78 = .ok (.invokestatic 13, 3) := by decide +kernel
theorem dX2_inv_81 : decode cX2_inv 81 = .ok (.istore 12, 2) := by decide +kernel
theorem dX2_inv_83 : decode cX2_inv 83 = .ok (.iload 12, 2) := by decide +kernel
theorem dX2_inv_85 : decode cX2_inv 85 = .ok (.invokestatic 17, 3) := by decide +kernel
theorem dX2_inv_88 : decode cX2_inv 88 = .ok (.ireturn, 1) := by decide +kernel
abbrev cX2_div : ByteArray := prog_4_method_7_code
def yX2_div : MethodName := ⟨RX2, "div", "(II)I"⟩
theorem dX2_div_0 : decode cX2_div 0 = .ok (.iload_n 0, 1) := by decide +kernel
theorem dX2_div_1 : decode cX2_div 1 = .ok (.iload_n 1, 1) := by decide +kernel
theorem dX2_div_2 : decode cX2_div 2 = .ok (.invokestatic 20, 3) := by decide +kernel
theorem dX2_div_5 : decode cX2_div 5 = .ok (.invokestatic 13, 3) := by decide +kernel
theorem dX2_div_8 : decode cX2_div 8 = .ok (.ireturn, 1) := by decide +kernel
set_option maxRecDepth 100000 in
theorem q3 : (Jvm.Cond.initialized "GF") ∈ lw_all := lw_g (lw_at lw_m0 3 rfl) rfl
set_option maxRecDepth 100000 in
theorem q21 : (Jvm.Cond.static ({ cls := "GF", name := "mul", desc := "(II)I" } : Jvm.MethodName)) ∈ lw_all := lw_g (lw_at lw_m0 21 rfl) rfl
set_option maxRecDepth 100000 in
theorem q22 : (Jvm.Cond.code ({ cls := "GF", name := "mul", desc := "(II)I" } : Jvm.MethodName) prog_4_method_3_code (5 : Nat) (Option.some Jvm.ClassFile.FieldType.int)) ∈ lw_all := lw_g (lw_at lw_m0 22 rfl) rfl
set_option maxRecDepth 100000 in
theorem q23 : (Jvm.Cond.methodLink "GF" (9 : Nat) ({ cls := "GF", name := "reduce", desc := "(I)I" } : Jvm.MethodName)) ∈ lw_all := lw_g (lw_at lw_m0 23 rfl) rfl
set_option maxRecDepth 100000 in
theorem q24 : (Jvm.Cond.static ({ cls := "GF", name := "reduce", desc := "(I)I" } : Jvm.MethodName)) ∈ lw_all := lw_g (lw_at lw_m0 24 rfl) rfl
set_option maxRecDepth 100000 in
theorem q25 : (Jvm.Cond.code ({ cls := "GF", name := "reduce", desc := "(I)I" } : Jvm.MethodName) prog_4_method_2_code (3 : Nat) (Option.some Jvm.ClassFile.FieldType.int)) ∈ lw_all := lw_g (lw_at lw_m0 25 rfl) rfl
set_option maxRecDepth 100000 in
theorem q31 : (Jvm.Cond.static ({ cls := "GF", name := "mul3", desc := "(III)I" } : Jvm.MethodName)) ∈ lw_all := lw_g (lw_at lw_m0 31 rfl) rfl
set_option maxRecDepth 100000 in
theorem q32 : (Jvm.Cond.code ({ cls := "GF", name := "mul3", desc := "(III)I" } : Jvm.MethodName) prog_4_method_4_code (3 : Nat) (Option.some Jvm.ClassFile.FieldType.int)) ∈ lw_all := lw_g (lw_at lw_m0 32 rfl) rfl
set_option maxRecDepth 100000 in
theorem q33 : (Jvm.Cond.methodLink "GF" (13 : Nat) ({ cls := "GF", name := "mul", desc := "(II)I" } : Jvm.MethodName)) ∈ lw_all := lw_g (lw_at lw_m0 33 rfl) rfl
set_option maxRecDepth 100000 in
theorem q39 : (Jvm.Cond.static ({ cls := "GF", name := "sqr", desc := "(I)I" } : Jvm.MethodName)) ∈ lw_all := lw_g (lw_at lw_m0 39 rfl) rfl
set_option maxRecDepth 100000 in
theorem q40 : (Jvm.Cond.code ({ cls := "GF", name := "sqr", desc := "(I)I" } : Jvm.MethodName) prog_4_method_5_code (2 : Nat) (Option.some Jvm.ClassFile.FieldType.int)) ∈ lw_all := lw_g (lw_at lw_m0 40 rfl) rfl
set_option maxRecDepth 100000 in
theorem q46 : (Jvm.Cond.static ({ cls := "GF", name := "inv", desc := "(I)I" } : Jvm.MethodName)) ∈ lw_all := lw_g (lw_at lw_m0 46 rfl) rfl
set_option maxRecDepth 100000 in
theorem q47 : (Jvm.Cond.code ({ cls := "GF", name := "inv", desc := "(I)I" } : Jvm.MethodName) prog_4_method_6_code (13 : Nat) (Option.some Jvm.ClassFile.FieldType.int)) ∈ lw_all := lw_g (lw_at lw_m0 47 rfl) rfl
set_option maxRecDepth 100000 in
theorem q48 : (Jvm.Cond.methodLink "GF" (17 : Nat) ({ cls := "GF", name := "sqr", desc := "(I)I" } : Jvm.MethodName)) ∈ lw_all := lw_g (lw_at lw_m0 48 rfl) rfl
set_option maxRecDepth 100000 in
theorem q54 : (Jvm.Cond.static ({ cls := "GF", name := "div", desc := "(II)I" } : Jvm.MethodName)) ∈ lw_all := lw_g (lw_at lw_m0 54 rfl) rfl
set_option maxRecDepth 100000 in
theorem q55 : (Jvm.Cond.code ({ cls := "GF", name := "div", desc := "(II)I" } : Jvm.MethodName) prog_4_method_7_code (2 : Nat) (Option.some Jvm.ClassFile.FieldType.int)) ∈ lw_all := lw_g (lw_at lw_m0 55 rfl) rfl
set_option maxRecDepth 100000 in
theorem q56 : (Jvm.Cond.methodLink "GF" (20 : Nat) ({ cls := "GF", name := "inv", desc := "(I)I" } : Jvm.MethodName)) ∈ lw_all := lw_g (lw_at lw_m0 56 rfl) rfl
/-! ByteFieldModel -/
def RX1 : String := "ByteFieldModel"
def TX1 : u_T := fun k => match k with
  | _ => ("ByteFieldModel", "held", "I", false)
def tyX1 : Nat → FieldType := fun k => match k with
  | _ => .int
abbrev wsX10 : List Cond := u_ws RX1 TX1 1
theorem nmX1 : ∀ a, a < 1 → ∀ b, b < 1 → a ≠ b → (TX1 a).2.1 ≠ (TX1 b).2.1 := by decide +kernel
theorem tyX1_ok : ∀ k, k < 1 → parseFieldDescriptor (TX1 k).2.2.1 = some (tyX1 k) := by decide +kernel
abbrev cX1_init : ByteArray := prog_3_method_1_code
def yX1_init : MethodName := ⟨RX1, "<init>", "()V"⟩
theorem dX1_init_0 : decode cX1_init 0 = .ok (.aload_n 0, 1) := by decide +kernel
theorem dX1_init_1 : decode cX1_init 1 = .ok (.invokespecial 1, 3) := by decide +kernel
theorem dX1_init_4 : decode cX1_init 4 = .ok (.aload_n 0, 1) := by decide +kernel
theorem dX1_init_5 : decode cX1_init 5 = .ok (.iconst 1, 1) := by decide +kernel
theorem dX1_init_6 : decode cX1_init 6 = .ok (.putfield 7, 3) := by decide +kernel
theorem dX1_init_9 : decode cX1_init 9 = .ok (.return_, 1) := by decide +kernel
abbrev cX1_times : ByteArray := prog_3_method_4_code
def yX1_times : MethodName := ⟨RX1, "times", "(II)I"⟩
theorem dX1_times_0 : decode cX1_times 0 = .ok (.iload_n 1, 1) := by decide +kernel
theorem dX1_times_1 : decode cX1_times 1 = .ok (.sipush 255, 3) := by decide +kernel
theorem dX1_times_4 : decode cX1_times 4 = .ok (.iand, 1) := by decide +kernel
theorem dX1_times_5 : decode cX1_times 5 = .ok (.iload_n 2, 1) := by decide +kernel
theorem dX1_times_6 : decode cX1_times 6 = .ok (.sipush 255, 3) := by decide +kernel
theorem dX1_times_9 : decode cX1_times 9 = .ok (.iand, 1) := by decide +kernel
theorem dX1_times_10 : decode cX1_times 10 = .ok (.invokestatic 13, 3) := by decide +kernel
theorem dX1_times_13 : decode cX1_times 13 = .ok (.ireturn, 1) := by decide +kernel
abbrev cX1_product : ByteArray := prog_3_method_2_code
def yX1_product : MethodName := ⟨RX1, "product", "(II)I"⟩
theorem dX1_product_0 : decode cX1_product 0 = .ok (.iconst 0, 1) := by decide +kernel
theorem dX1_product_1 : decode cX1_product 1 = .ok (.istore_n 2, 1) := by decide +kernel
theorem dX1_product_2 : decode cX1_product 2 = .ok (.iconst 0, 1) := by decide +kernel
theorem dX1_product_3 : decode cX1_product 3 = .ok (.istore_n 3, 1) := by decide +kernel
theorem dX1_product_4 : decode cX1_product 4 = .ok (.iload_n 3, 1) := by decide +kernel
theorem dX1_product_5 : decode cX1_product 5 = .ok (.bipush 8, 2) := by decide +kernel
theorem dX1_product_7 : decode cX1_product 7 = .ok (.if_icmp .ge 24, 3) := by decide +kernel
theorem dX1_product_10 : decode cX1_product 10 = .ok (.iload_n 1, 1) := by decide +kernel
theorem dX1_product_11 : decode cX1_product 11 = .ok (.iload_n 3, 1) := by decide +kernel
theorem dX1_product_12 : decode cX1_product 12 = .ok (.ishr, 1) := by decide +kernel
theorem dX1_product_13 : decode cX1_product 13 = .ok (.iconst 1, 1) := by decide +kernel
theorem dX1_product_14 : decode cX1_product 14 = .ok (.iand, 1) := by decide +kernel
theorem dX1_product_15 : decode cX1_product 15 = .ok (.iconst 1, 1) := by decide +kernel
theorem dX1_product_16 : decode cX1_product 16 = .ok (.if_icmp .ne 9, 3) := by decide +kernel
theorem dX1_product_19 : decode cX1_product 19 = .ok (.iload_n 2, 1) := by decide +kernel
theorem dX1_product_20 : decode cX1_product 20 = .ok (.iload_n 0, 1) := by decide +kernel
theorem dX1_product_21 : decode cX1_product 21 = .ok (.iload_n 3, 1) := by decide +kernel
theorem dX1_product_22 : decode cX1_product 22 = .ok (.ishl, 1) := by decide +kernel
theorem dX1_product_23 : decode cX1_product 23 = .ok (.ixor, 1) := by decide +kernel
theorem dX1_product_24 : decode cX1_product 24 = .ok (.istore_n 2, 1) := by decide +kernel
theorem dX1_product_25 : decode cX1_product 25 = .ok (.iinc 3 1, 3) := by decide +kernel
theorem dX1_product_28 : decode cX1_product 28 = .ok (.goto (-24), 3) := by decide +kernel
theorem dX1_product_31 : decode cX1_product 31 = .ok (.bipush 14, 2) := by decide +kernel
theorem dX1_product_33 : decode cX1_product 33 = .ok (.istore_n 3, 1) := by decide +kernel
theorem dX1_product_34 : decode cX1_product 34 = .ok (.iload_n 3, 1) := by decide +kernel
theorem dX1_product_35 : decode cX1_product 35 = .ok (.bipush 8, 2) := by decide +kernel
theorem dX1_product_37 : decode cX1_product 37 = .ok (.if_icmp .lt 29, 3) := by decide +kernel
theorem dX1_product_40 : decode cX1_product 40 = .ok (.iload_n 2, 1) := by decide +kernel
theorem dX1_product_41 : decode cX1_product 41 = .ok (.iload_n 3, 1) := by decide +kernel
theorem dX1_product_42 : decode cX1_product 42 = .ok (.ishr, 1) := by decide +kernel
theorem dX1_product_43 : decode cX1_product 43 = .ok (.iconst 1, 1) := by decide +kernel
theorem dX1_product_44 : decode cX1_product 44 = .ok (.iand, 1) := by decide +kernel
theorem dX1_product_45 : decode cX1_product 45 = .ok (.iconst 1, 1) := by decide +kernel
theorem dX1_product_46 : decode cX1_product 46 = .ok (.if_icmp .ne 14, 3) := by decide +kernel
theorem dX1_product_49 : decode cX1_product 49 = .ok (.iload_n 2, 1) := by decide +kernel
theorem dX1_product_50 : decode cX1_product 50 = .ok (.sipush 285, 3) := by decide +kernel
theorem dX1_product_53 : decode cX1_product 53 = .ok (.iload_n 3, 1) := by decide +kernel
theorem dX1_product_54 : decode cX1_product 54 = .ok (.bipush 8, 2) := by decide +kernel
theorem dX1_product_56 : decode cX1_product 56 = .ok (.isub, 1) := by decide +kernel
theorem dX1_product_57 : decode cX1_product 57 = .ok (.ishl, 1) := by decide +kernel
theorem dX1_product_58 : decode cX1_product 58 = .ok (.ixor, 1) := by decide +kernel
theorem dX1_product_59 : decode cX1_product 59 = .ok (.istore_n 2, 1) := by decide +kernel
theorem dX1_product_60 : decode cX1_product 60 = .ok (.iinc 3 (-1), 3) := by decide +kernel
theorem dX1_product_63 : decode cX1_product 63 = .ok (.goto (-29), 3) := by decide +kernel
theorem dX1_product_66 : decode cX1_product 66 = .ok (.iload_n 2, 1) := by decide +kernel
theorem dX1_product_67 : decode cX1_product 67 = .ok (.ireturn, 1) := by decide +kernel
abbrev cX1_timesThree : ByteArray := prog_3_method_5_code
def yX1_timesThree : MethodName := ⟨RX1, "timesThree", "(III)I"⟩
theorem dX1_timesThree_0 : decode cX1_timesThree 0 = .ok (.iload_n 1, 1) := by decide +kernel
theorem dX1_timesThree_1 : decode cX1_timesThree 1 = .ok (.sipush 255, 3) := by decide +kernel
theorem dX1_timesThree_4 : decode cX1_timesThree 4 = .ok (.iand, 1) := by decide +kernel
theorem dX1_timesThree_5 : decode cX1_timesThree 5 = .ok (.iload_n 2, 1) := by decide +kernel
theorem dX1_timesThree_6 : decode cX1_timesThree 6 = .ok (.sipush 255, 3) := by decide +kernel
theorem dX1_timesThree_9 : decode cX1_timesThree 9 = .ok (.iand, 1) := by decide +kernel
theorem dX1_timesThree_10 : decode cX1_timesThree 10 = .ok (.iload_n 3, 1) := by decide +kernel
theorem dX1_timesThree_11 : decode cX1_timesThree 11 = .ok (.sipush 255, 3) := by decide +kernel
theorem dX1_timesThree_14 : decode cX1_timesThree 14 = .ok (.iand, 1) := by decide +kernel
theorem dX1_timesThree_15 : decode cX1_timesThree 15 = .ok (.invokestatic 13, 3) := by decide +kernel
theorem dX1_timesThree_18 : decode cX1_timesThree 18 = .ok (.invokestatic 13, 3) := by decide +kernel
theorem dX1_timesThree_21 : decode cX1_timesThree 21 = .ok (.ireturn, 1) := by decide +kernel
abbrev cX1_square : ByteArray := prog_3_method_6_code
def yX1_square : MethodName := ⟨RX1, "square", "(I)I"⟩
theorem dX1_square_0 : decode cX1_square 0 = .ok (.iload_n 1, 1) := by decide +kernel
theorem dX1_square_1 : decode cX1_square 1 = .ok (.sipush 255, 3) := by decide +kernel
theorem dX1_square_4 : decode cX1_square 4 = .ok (.iand, 1) := by decide +kernel
theorem dX1_square_5 : decode cX1_square 5 = .ok (.iload_n 1, 1) := by decide +kernel
theorem dX1_square_6 : decode cX1_square 6 = .ok (.sipush 255, 3) := by decide +kernel
theorem dX1_square_9 : decode cX1_square 9 = .ok (.iand, 1) := by decide +kernel
theorem dX1_square_10 : decode cX1_square 10 = .ok (.invokestatic 13, 3) := by decide +kernel
theorem dX1_square_13 : decode cX1_square 13 = .ok (.ireturn, 1) := by decide +kernel
abbrev cX1_inverse : ByteArray := prog_3_method_7_code
def yX1_inverse : MethodName := ⟨RX1, "inverse", "(I)I"⟩
theorem dX1_inverse_0 : decode cX1_inverse 0 = .ok (.iload_n 1, 1) := by decide +kernel
theorem dX1_inverse_1 : decode cX1_inverse 1 = .ok (.sipush 255, 3) := by decide +kernel
theorem dX1_inverse_4 : decode cX1_inverse 4 = .ok (.iand, 1) := by decide +kernel
theorem dX1_inverse_5 : decode cX1_inverse 5 = .ok (.ifCond .ne 7, 3) := by decide +kernel
theorem dX1_inverse_8 : decode cX1_inverse 8 = .ok (.iconst (-1), 1) := by decide +kernel
theorem dX1_inverse_9 : decode cX1_inverse 9 = .ok (.goto 12, 3) := by decide +kernel
theorem dX1_inverse_12 : decode cX1_inverse 12 = .ok (.iconst 1, 1) := by decide +kernel
theorem dX1_inverse_13 : decode cX1_inverse 13 = .ok (.iload_n 1, 1) := by decide +kernel
theorem dX1_inverse_14 : decode cX1_inverse 14 = .ok (.sipush 255, 3) := by decide +kernel
theorem dX1_inverse_17 : decode cX1_inverse 17 = .ok (.iand, 1) := by decide +kernel
theorem dX1_inverse_18 : decode cX1_inverse 18 = .ok (.invokestatic 17, 3) := by decide +kernel
theorem dX1_inverse_21 : decode cX1_inverse 21 = .ok (.ireturn, 1) := by decide +kernel
abbrev cX1_quotient : ByteArray := prog_3_method_3_code
def yX1_quotient : MethodName := ⟨RX1, "quotient", "(II)I"⟩
theorem dX1_quotient_0 : decode cX1_quotient 0 = .ok (.iconst 0, 1) := by decide +kernel
theorem dX1_quotient_1 : decode cX1_quotient 1 = .ok (.istore_n 2, 1) := by decide +kernel
theorem dX1_quotient_2 : decode cX1_quotient 2 = .ok (.iload_n 2, 1) := by decide +kernel
theorem dX1_quotient_3 : decode cX1_quotient 3 = .ok (.sipush 256, 3) := by decide +kernel
theorem dX1_quotient_6 : decode cX1_quotient 6 = .ok (.if_icmp .ge 20, 3) := by decide +kernel
theorem dX1_quotient_9 : decode cX1_quotient 9 = .ok (.iload_n 2, 1) := by decide +kernel
theorem dX1_quotient_10 : decode cX1_quotient 10 = .ok (.iload_n 1, 1) := by decide +kernel
theorem dX1_quotient_11 : decode cX1_quotient 11 = .ok (.invokestatic 13, 3) := by decide +kernel
theorem dX1_quotient_14 : decode cX1_quotient 14 = .ok (.iload_n 0, 1) := by decide +kernel
theorem dX1_quotient_15 : decode cX1_quotient 15 = .ok (.if_icmp .ne 5, 3) := by decide +kernel
theorem dX1_quotient_18 : decode cX1_quotient 18 = .ok (.iload_n 2, 1) := by decide +kernel
theorem dX1_quotient_19 : decode cX1_quotient 19 = .ok (.ireturn, 1) := by decide +kernel
theorem dX1_quotient_20 : decode cX1_quotient 20 = .ok (.iinc 2 1, 3) := by decide +kernel
theorem dX1_quotient_23 : decode cX1_quotient 23 = .ok (.goto (-21), 3) := by decide +kernel
theorem dX1_quotient_26 : decode cX1_quotient 26 = .ok (.iconst (-1), 1) := by decide +kernel
theorem dX1_quotient_27 : decode cX1_quotient 27 = .ok (.ireturn, 1) := by decide +kernel
abbrev cX1_divide : ByteArray := prog_3_method_8_code
def yX1_divide : MethodName := ⟨RX1, "divide", "(II)I"⟩
theorem dX1_divide_0 : decode cX1_divide 0 = .ok (.iload_n 2, 1) := by decide +kernel
theorem dX1_divide_1 : decode cX1_divide 1 = .ok (.sipush 255, 3) := by decide +kernel
theorem dX1_divide_4 : decode cX1_divide 4 = .ok (.iand, 1) := by decide +kernel
theorem dX1_divide_5 : decode cX1_divide 5 = .ok (.ifCond .ne 7, 3) := by decide +kernel
theorem dX1_divide_8 : decode cX1_divide 8 = .ok (.iconst (-1), 1) := by decide +kernel
theorem dX1_divide_9 : decode cX1_divide 9 = .ok (.goto 16, 3) := by decide +kernel
theorem dX1_divide_12 : decode cX1_divide 12 = .ok (.iload_n 1, 1) := by decide +kernel
theorem dX1_divide_13 : decode cX1_divide 13 = .ok (.sipush 255, 3) := by decide +kernel
theorem dX1_divide_16 : decode cX1_divide 16 = .ok (.iand, 1) := by decide +kernel
theorem dX1_divide_17 : decode cX1_divide 17 = .ok (.iload_n 2, 1) := by decide +kernel
theorem dX1_divide_18 : decode cX1_divide 18 = .ok (.sipush 255, 3) := by decide +kernel
theorem dX1_divide_21 : decode cX1_divide 21 = .ok (.iand, 1) := by decide +kernel
theorem dX1_divide_22 : decode cX1_divide 22 = .ok (.invokestatic 17, 3) := by decide +kernel
theorem dX1_divide_25 : decode cX1_divide 25 = .ok (.ireturn, 1) := by decide +kernel
abbrev cX1_hold : ByteArray := prog_3_method_9_code
def yX1_hold : MethodName := ⟨RX1, "hold", "(I)I"⟩
theorem dX1_hold_0 : decode cX1_hold 0 = .ok (.aload_n 0, 1) := by decide +kernel
theorem dX1_hold_1 : decode cX1_hold 1 = .ok (.iload_n 1, 1) := by decide +kernel
theorem dX1_hold_2 : decode cX1_hold 2 = .ok (.sipush 255, 3) := by decide +kernel
theorem dX1_hold_5 : decode cX1_hold 5 = .ok (.iand, 1) := by decide +kernel
theorem dX1_hold_6 : decode cX1_hold 6 = .ok (.putfield 7, 3) := by decide +kernel
theorem dX1_hold_9 : decode cX1_hold 9 = .ok (.aload_n 0, 1) := by decide +kernel
theorem dX1_hold_10 : decode cX1_hold 10 = .ok (.getfield 7, 3) := by decide +kernel
theorem dX1_hold_13 : decode cX1_hold 13 = .ok (.ireturn, 1) := by decide +kernel
abbrev cX1_fold : ByteArray := prog_3_method_10_code
def yX1_fold : MethodName := ⟨RX1, "fold", "(II)I"⟩
theorem dX1_fold_0 : decode cX1_fold 0 = .ok (.aload_n 0, 1) := by decide +kernel
theorem dX1_fold_1 : decode cX1_fold 1 = .ok (.aload_n 0, 1) := by decide +kernel
theorem dX1_fold_2 : decode cX1_fold 2 = .ok (.getfield 7, 3) := by decide +kernel
theorem dX1_fold_5 : decode cX1_fold 5 = .ok (.iload_n 1, 1) := by decide +kernel
theorem dX1_fold_6 : decode cX1_fold 6 = .ok (.sipush 255, 3) := by decide +kernel
theorem dX1_fold_9 : decode cX1_fold 9 = .ok (.iand, 1) := by decide +kernel
theorem dX1_fold_10 : decode cX1_fold 10 = .ok (.invokestatic 13, 3) := by decide +kernel
theorem dX1_fold_13 : decode cX1_fold 13 = .ok (.iload_n 2, 1) := by decide +kernel
theorem dX1_fold_14 : decode cX1_fold 14 = .ok (.sipush 255, 3) := by decide +kernel
theorem dX1_fold_17 : decode cX1_fold 17 = .ok (.iand, 1) := by decide +kernel
theorem dX1_fold_18 : decode cX1_fold 18 = .ok (.ixor, 1) := by decide +kernel
theorem dX1_fold_19 : decode cX1_fold 19 = .ok (.putfield 7, 3) := by decide +kernel
theorem dX1_fold_22 : decode cX1_fold 22 = .ok (.aload_n 0, 1) := by decide +kernel
theorem dX1_fold_23 : decode cX1_fold 23 = .ok (.getfield 7, 3) := by decide +kernel
theorem dX1_fold_26 : decode cX1_fold 26 = .ok (.ireturn, 1) := by decide +kernel
abbrev cX1_power : ByteArray := prog_3_method_11_code
def yX1_power : MethodName := ⟨RX1, "power", "(I)I"⟩
theorem dX1_power_0 : decode cX1_power 0 = .ok (.iconst 1, 1) := by decide +kernel
theorem dX1_power_1 : decode cX1_power 1 = .ok (.istore_n 2, 1) := by decide +kernel
theorem dX1_power_2 : decode cX1_power 2 = .ok (.iconst 0, 1) := by decide +kernel
theorem dX1_power_3 : decode cX1_power 3 = .ok (.istore_n 3, 1) := by decide +kernel
theorem dX1_power_4 : decode cX1_power 4 = .ok (.iload_n 3, 1) := by decide +kernel
theorem dX1_power_5 : decode cX1_power 5 = .ok (.iload_n 1, 1) := by decide +kernel
theorem dX1_power_6 : decode cX1_power 6 = .ok (.sipush 255, 3) := by decide +kernel
theorem dX1_power_9 : decode cX1_power 9 = .ok (.iand, 1) := by decide +kernel
theorem dX1_power_10 : decode cX1_power 10 = .ok (.if_icmp .ge 18, 3) := by decide +kernel
theorem dX1_power_13 : decode cX1_power 13 = .ok (.iload_n 2, 1) := by decide +kernel
theorem dX1_power_14 : decode cX1_power 14 = .ok (.aload_n 0, 1) := by decide +kernel
theorem dX1_power_15 : decode cX1_power 15 = .ok (.getfield 7, 3) := by decide +kernel
theorem dX1_power_18 : decode cX1_power 18 = .ok (.invokestatic 13, 3) := by decide +kernel
theorem dX1_power_21 : decode cX1_power 21 = .ok (.istore_n 2, 1) := by decide +kernel
theorem dX1_power_22 : decode cX1_power 22 = .ok (.iinc 3 1, 3) := by decide +kernel
theorem dX1_power_25 : decode cX1_power 25 = .ok (.goto (-21), 3) := by decide +kernel
theorem dX1_power_28 : decode cX1_power 28 = .ok (.iload_n 2, 1) := by decide +kernel
theorem dX1_power_29 : decode cX1_power 29 = .ok (.ireturn, 1) := by decide +kernel
set_option maxRecDepth 100000 in
theorem q2 : (Jvm.Cond.initialized "ByteFieldModel") ∈ lw_all := lw_g (lw_at lw_m0 2 rfl) rfl
set_option maxRecDepth 100000 in
theorem q70 : (Jvm.Cond.instantiable "ByteFieldModel" (1 : Nat)) ∈ lw_all := lw_g (lw_at lw_m0 70 rfl) rfl
set_option maxRecDepth 100000 in
theorem q72 : (Jvm.Cond.instanceMethod ({ cls := "ByteFieldModel", name := "<init>", desc := "()V" } : Jvm.MethodName)) ∈ lw_all := lw_g (lw_at lw_m0 72 rfl) rfl
set_option maxRecDepth 100000 in
theorem q73 : (Jvm.Cond.code ({ cls := "ByteFieldModel", name := "<init>", desc := "()V" } : Jvm.MethodName) prog_3_method_1_code (1 : Nat) (Option.none : Option Jvm.ClassFile.FieldType)) ∈ lw_all := lw_g (lw_at lw_m0 73 rfl) rfl
set_option maxRecDepth 100000 in
theorem q74 : (Jvm.Cond.methodLink "ByteFieldModel" (1 : Nat) ({ cls := "java/lang/Object", name := "<init>", desc := "()V" } : Jvm.MethodName)) ∈ lw_all := lw_g (lw_at lw_m0 74 rfl) rfl
set_option maxRecDepth 100000 in
theorem q75 : (Jvm.Cond.fieldLink "ByteFieldModel" (7 : Nat) "ByteFieldModel" "held" "I") ∈ lw_all := lw_g (lw_at lw_m0 75 rfl) rfl
set_option maxRecDepth 100000 in
theorem q76 : (Jvm.Cond.lays "ByteFieldModel" "ByteFieldModel" "held" "I") ∈ lw_all := lw_g (lw_at lw_m0 76 rfl) rfl
set_option maxRecDepth 100000 in
theorem q77 : (Jvm.Cond.soleField "ByteFieldModel" "held") ∈ lw_all := lw_g (lw_at lw_m0 77 rfl) rfl
set_option maxRecDepth 100000 in
theorem q78 : (Jvm.Cond.superclass "ByteFieldModel" "java/lang/Object") ∈ lw_all := lw_g (lw_at lw_m0 78 rfl) rfl
set_option maxRecDepth 100000 in
theorem q80 : (Jvm.Cond.instanceMethod ({ cls := "ByteFieldModel", name := "times", desc := "(II)I" } : Jvm.MethodName)) ∈ lw_all := lw_g (lw_at lw_m0 80 rfl) rfl
set_option maxRecDepth 100000 in
theorem q81 : (Jvm.Cond.selects "ByteFieldModel" ({ cls := "ByteFieldModel", name := "times", desc := "(II)I" } : Jvm.MethodName) ({ cls := "ByteFieldModel", name := "times", desc := "(II)I" } : Jvm.MethodName)) ∈ lw_all := lw_g (lw_at lw_m0 81 rfl) rfl
set_option maxRecDepth 100000 in
theorem q82 : (Jvm.Cond.code ({ cls := "ByteFieldModel", name := "times", desc := "(II)I" } : Jvm.MethodName) prog_3_method_4_code (3 : Nat) (Option.some Jvm.ClassFile.FieldType.int)) ∈ lw_all := lw_g (lw_at lw_m0 82 rfl) rfl
set_option maxRecDepth 100000 in
theorem q83 : (Jvm.Cond.methodLink "ByteFieldModel" (13 : Nat) ({ cls := "ByteFieldModel", name := "product", desc := "(II)I" } : Jvm.MethodName)) ∈ lw_all := lw_g (lw_at lw_m0 83 rfl) rfl
set_option maxRecDepth 100000 in
theorem q84 : (Jvm.Cond.static ({ cls := "ByteFieldModel", name := "product", desc := "(II)I" } : Jvm.MethodName)) ∈ lw_all := lw_g (lw_at lw_m0 84 rfl) rfl
set_option maxRecDepth 100000 in
theorem q85 : (Jvm.Cond.code ({ cls := "ByteFieldModel", name := "product", desc := "(II)I" } : Jvm.MethodName) prog_3_method_2_code (4 : Nat) (Option.some Jvm.ClassFile.FieldType.int)) ∈ lw_all := lw_g (lw_at lw_m0 85 rfl) rfl
set_option maxRecDepth 100000 in
theorem q87 : (Jvm.Cond.instanceMethod ({ cls := "ByteFieldModel", name := "timesThree", desc := "(III)I" } : Jvm.MethodName)) ∈ lw_all := lw_g (lw_at lw_m0 87 rfl) rfl
set_option maxRecDepth 100000 in
theorem q88 : (Jvm.Cond.selects "ByteFieldModel" ({ cls := "ByteFieldModel", name := "timesThree", desc := "(III)I" } : Jvm.MethodName) ({ cls := "ByteFieldModel", name := "timesThree", desc := "(III)I" } : Jvm.MethodName)) ∈ lw_all := lw_g (lw_at lw_m0 88 rfl) rfl
set_option maxRecDepth 100000 in
theorem q89 : (Jvm.Cond.code ({ cls := "ByteFieldModel", name := "timesThree", desc := "(III)I" } : Jvm.MethodName) prog_3_method_5_code (4 : Nat) (Option.some Jvm.ClassFile.FieldType.int)) ∈ lw_all := lw_g (lw_at lw_m0 89 rfl) rfl
set_option maxRecDepth 100000 in
theorem q91 : (Jvm.Cond.instanceMethod ({ cls := "ByteFieldModel", name := "square", desc := "(I)I" } : Jvm.MethodName)) ∈ lw_all := lw_g (lw_at lw_m0 91 rfl) rfl
set_option maxRecDepth 100000 in
theorem q92 : (Jvm.Cond.selects "ByteFieldModel" ({ cls := "ByteFieldModel", name := "square", desc := "(I)I" } : Jvm.MethodName) ({ cls := "ByteFieldModel", name := "square", desc := "(I)I" } : Jvm.MethodName)) ∈ lw_all := lw_g (lw_at lw_m0 92 rfl) rfl
set_option maxRecDepth 100000 in
theorem q93 : (Jvm.Cond.code ({ cls := "ByteFieldModel", name := "square", desc := "(I)I" } : Jvm.MethodName) prog_3_method_6_code (2 : Nat) (Option.some Jvm.ClassFile.FieldType.int)) ∈ lw_all := lw_g (lw_at lw_m0 93 rfl) rfl
set_option maxRecDepth 100000 in
theorem q95 : (Jvm.Cond.instanceMethod ({ cls := "ByteFieldModel", name := "inverse", desc := "(I)I" } : Jvm.MethodName)) ∈ lw_all := lw_g (lw_at lw_m0 95 rfl) rfl
set_option maxRecDepth 100000 in
theorem q96 : (Jvm.Cond.selects "ByteFieldModel" ({ cls := "ByteFieldModel", name := "inverse", desc := "(I)I" } : Jvm.MethodName) ({ cls := "ByteFieldModel", name := "inverse", desc := "(I)I" } : Jvm.MethodName)) ∈ lw_all := lw_g (lw_at lw_m0 96 rfl) rfl
set_option maxRecDepth 100000 in
theorem q97 : (Jvm.Cond.code ({ cls := "ByteFieldModel", name := "inverse", desc := "(I)I" } : Jvm.MethodName) prog_3_method_7_code (2 : Nat) (Option.some Jvm.ClassFile.FieldType.int)) ∈ lw_all := lw_g (lw_at lw_m0 97 rfl) rfl
set_option maxRecDepth 100000 in
theorem q98 : (Jvm.Cond.methodLink "ByteFieldModel" (17 : Nat) ({ cls := "ByteFieldModel", name := "quotient", desc := "(II)I" } : Jvm.MethodName)) ∈ lw_all := lw_g (lw_at lw_m0 98 rfl) rfl
set_option maxRecDepth 100000 in
theorem q99 : (Jvm.Cond.static ({ cls := "ByteFieldModel", name := "quotient", desc := "(II)I" } : Jvm.MethodName)) ∈ lw_all := lw_g (lw_at lw_m0 99 rfl) rfl
set_option maxRecDepth 100000 in
theorem q100 : (Jvm.Cond.code ({ cls := "ByteFieldModel", name := "quotient", desc := "(II)I" } : Jvm.MethodName) prog_3_method_3_code (3 : Nat) (Option.some Jvm.ClassFile.FieldType.int)) ∈ lw_all := lw_g (lw_at lw_m0 100 rfl) rfl
set_option maxRecDepth 100000 in
theorem q102 : (Jvm.Cond.instanceMethod ({ cls := "ByteFieldModel", name := "divide", desc := "(II)I" } : Jvm.MethodName)) ∈ lw_all := lw_g (lw_at lw_m0 102 rfl) rfl
set_option maxRecDepth 100000 in
theorem q103 : (Jvm.Cond.selects "ByteFieldModel" ({ cls := "ByteFieldModel", name := "divide", desc := "(II)I" } : Jvm.MethodName) ({ cls := "ByteFieldModel", name := "divide", desc := "(II)I" } : Jvm.MethodName)) ∈ lw_all := lw_g (lw_at lw_m0 103 rfl) rfl
set_option maxRecDepth 100000 in
theorem q104 : (Jvm.Cond.code ({ cls := "ByteFieldModel", name := "divide", desc := "(II)I" } : Jvm.MethodName) prog_3_method_8_code (3 : Nat) (Option.some Jvm.ClassFile.FieldType.int)) ∈ lw_all := lw_g (lw_at lw_m0 104 rfl) rfl
set_option maxRecDepth 100000 in
theorem q106 : (Jvm.Cond.instanceMethod ({ cls := "ByteFieldModel", name := "hold", desc := "(I)I" } : Jvm.MethodName)) ∈ lw_all := lw_g (lw_at lw_m0 106 rfl) rfl
set_option maxRecDepth 100000 in
theorem q107 : (Jvm.Cond.selects "ByteFieldModel" ({ cls := "ByteFieldModel", name := "hold", desc := "(I)I" } : Jvm.MethodName) ({ cls := "ByteFieldModel", name := "hold", desc := "(I)I" } : Jvm.MethodName)) ∈ lw_all := lw_g (lw_at lw_m0 107 rfl) rfl
set_option maxRecDepth 100000 in
theorem q108 : (Jvm.Cond.code ({ cls := "ByteFieldModel", name := "hold", desc := "(I)I" } : Jvm.MethodName) prog_3_method_9_code (2 : Nat) (Option.some Jvm.ClassFile.FieldType.int)) ∈ lw_all := lw_g (lw_at lw_m0 108 rfl) rfl
set_option maxRecDepth 100000 in
theorem q110 : (Jvm.Cond.instanceMethod ({ cls := "ByteFieldModel", name := "fold", desc := "(II)I" } : Jvm.MethodName)) ∈ lw_all := lw_g (lw_at lw_m0 110 rfl) rfl
set_option maxRecDepth 100000 in
theorem q111 : (Jvm.Cond.selects "ByteFieldModel" ({ cls := "ByteFieldModel", name := "fold", desc := "(II)I" } : Jvm.MethodName) ({ cls := "ByteFieldModel", name := "fold", desc := "(II)I" } : Jvm.MethodName)) ∈ lw_all := lw_g (lw_at lw_m0 111 rfl) rfl
set_option maxRecDepth 100000 in
theorem q112 : (Jvm.Cond.code ({ cls := "ByteFieldModel", name := "fold", desc := "(II)I" } : Jvm.MethodName) prog_3_method_10_code (3 : Nat) (Option.some Jvm.ClassFile.FieldType.int)) ∈ lw_all := lw_g (lw_at lw_m0 112 rfl) rfl
set_option maxRecDepth 100000 in
theorem q114 : (Jvm.Cond.instanceMethod ({ cls := "ByteFieldModel", name := "power", desc := "(I)I" } : Jvm.MethodName)) ∈ lw_all := lw_g (lw_at lw_m0 114 rfl) rfl
set_option maxRecDepth 100000 in
theorem q115 : (Jvm.Cond.selects "ByteFieldModel" ({ cls := "ByteFieldModel", name := "power", desc := "(I)I" } : Jvm.MethodName) ({ cls := "ByteFieldModel", name := "power", desc := "(I)I" } : Jvm.MethodName)) ∈ lw_all := lw_g (lw_at lw_m0 115 rfl) rfl
set_option maxRecDepth 100000 in
theorem q116 : (Jvm.Cond.code ({ cls := "ByteFieldModel", name := "power", desc := "(I)I" } : Jvm.MethodName) prog_3_method_11_code (4 : Nat) (Option.some Jvm.ClassFile.FieldType.int)) ∈ lw_all := lw_g (lw_at lw_m0 116 rfl) rfl
set_option maxRecDepth 100000 in
theorem in_X1 : ∀ w ∈ wsX10, w ∈ lw_all := lw_in wsX10 [76] (by decide +kernel) (by decide +kernel)
/-! ByteField -/
def RX0 : String := "ByteField"
def TX0 : u_T := fun k => match k with
  | _ => ("ByteField", "held", "I", false)
def tyX0 : Nat → FieldType := fun k => match k with
  | _ => .int
abbrev wsX00 : List Cond := u_ws RX0 TX0 1
theorem nmX0 : ∀ a, a < 1 → ∀ b, b < 1 → a ≠ b → (TX0 a).2.1 ≠ (TX0 b).2.1 := by decide +kernel
theorem tyX0_ok : ∀ k, k < 1 → parseFieldDescriptor (TX0 k).2.2.1 = some (tyX0 k) := by decide +kernel
abbrev cX0_init : ByteArray := prog_1_method_1_code
def yX0_init : MethodName := ⟨RX0, "<init>", "()V"⟩
theorem dX0_init_0 : decode cX0_init 0 = .ok (.aload_n 0, 1) := by decide +kernel
theorem dX0_init_1 : decode cX0_init 1 = .ok (.invokespecial 1, 3) := by decide +kernel
theorem dX0_init_4 : decode cX0_init 4 = .ok (.aload_n 0, 1) := by decide +kernel
theorem dX0_init_5 : decode cX0_init 5 = .ok (.iconst 1, 1) := by decide +kernel
theorem dX0_init_6 : decode cX0_init 6 = .ok (.putfield 7, 3) := by decide +kernel
theorem dX0_init_9 : decode cX0_init 9 = .ok (.return_, 1) := by decide +kernel
abbrev cX0_times : ByteArray := prog_1_method_2_code
def yX0_times : MethodName := ⟨RX0, "times", "(II)I"⟩
theorem dX0_times_0 : decode cX0_times 0 = .ok (.iload_n 1, 1) := by decide +kernel
theorem dX0_times_1 : decode cX0_times 1 = .ok (.sipush 255, 3) := by decide +kernel
theorem dX0_times_4 : decode cX0_times 4 = .ok (.iand, 1) := by decide +kernel
theorem dX0_times_5 : decode cX0_times 5 = .ok (.iload_n 2, 1) := by decide +kernel
theorem dX0_times_6 : decode cX0_times 6 = .ok (.sipush 255, 3) := by decide +kernel
theorem dX0_times_9 : decode cX0_times 9 = .ok (.iand, 1) := by decide +kernel
theorem dX0_times_10 : decode cX0_times 10 = .ok (.invokestatic 13, 3) := by decide +kernel
theorem dX0_times_13 : decode cX0_times 13 = .ok (.ireturn, 1) := by decide +kernel
abbrev cX0_timesThree : ByteArray := prog_1_method_3_code
def yX0_timesThree : MethodName := ⟨RX0, "timesThree", "(III)I"⟩
theorem dX0_timesThree_0 : decode cX0_timesThree 0 = .ok (.iload_n 1, 1) := by decide +kernel
theorem dX0_timesThree_1 : decode cX0_timesThree 1 = .ok (.sipush 255, 3) := by decide +kernel
theorem dX0_timesThree_4 : decode cX0_timesThree 4 = .ok (.iand, 1) := by decide +kernel
theorem dX0_timesThree_5 : decode cX0_timesThree 5 = .ok (.iload_n 2, 1) := by decide +kernel
theorem dX0_timesThree_6 : decode cX0_timesThree 6 = .ok (.sipush 255, 3) := by decide +kernel
theorem dX0_timesThree_9 : decode cX0_timesThree 9 = .ok (.iand, 1) := by decide +kernel
theorem dX0_timesThree_10 : decode cX0_timesThree 10 = .ok (.iload_n 3, 1) := by decide +kernel
theorem dX0_timesThree_11 : decode cX0_timesThree 11 = .ok (.sipush 255, 3) := by decide +kernel
theorem dX0_timesThree_14 : decode cX0_timesThree 14 = .ok (.iand, 1) := by decide +kernel
theorem dX0_timesThree_15 : decode cX0_timesThree 15 = .ok (.invokestatic 19, 3) := by decide +kernel
theorem dX0_timesThree_18 : decode cX0_timesThree 18 = .ok (.ireturn, 1) := by decide +kernel
abbrev cX0_square : ByteArray := prog_1_method_4_code
def yX0_square : MethodName := ⟨RX0, "square", "(I)I"⟩
theorem dX0_square_0 : decode cX0_square 0 = .ok (.iload_n 1, 1) := by decide +kernel
theorem dX0_square_1 : decode cX0_square 1 = .ok (.sipush 255, 3) := by decide +kernel
theorem dX0_square_4 : decode cX0_square 4 = .ok (.iand, 1) := by decide +kernel
theorem dX0_square_5 : decode cX0_square 5 = .ok (.invokestatic 23, 3) := by decide +kernel
theorem dX0_square_8 : decode cX0_square 8 = .ok (.ireturn, 1) := by decide +kernel
abbrev cX0_inverse : ByteArray := prog_1_method_5_code
def yX0_inverse : MethodName := ⟨RX0, "inverse", "(I)I"⟩
theorem dX0_inverse_0 : decode cX0_inverse 0 = .ok (.iload_n 1, 1) := by decide +kernel
theorem dX0_inverse_1 : decode cX0_inverse 1 = .ok (.sipush 255, 3) := by decide +kernel
theorem dX0_inverse_4 : decode cX0_inverse 4 = .ok (.iand, 1) := by decide +kernel
theorem dX0_inverse_5 : decode cX0_inverse 5 = .ok (.ifCond .ne 7, 3) := by decide +kernel
theorem dX0_inverse_8 : decode cX0_inverse 8 = .ok (.iconst (-1), 1) := by decide +kernel
theorem dX0_inverse_9 : decode cX0_inverse 9 = .ok (.goto 11, 3) := by decide +kernel
theorem dX0_inverse_12 : decode cX0_inverse 12 = .ok (.iload_n 1, 1) := by decide +kernel
theorem dX0_inverse_13 : decode cX0_inverse 13 = .ok (.sipush 255, 3) := by decide +kernel
theorem dX0_inverse_16 : decode cX0_inverse 16 = .ok (.iand, 1) := by decide +kernel
theorem dX0_inverse_17 : decode cX0_inverse 17 = .ok (.invokestatic 27, 3) := by decide +kernel
theorem dX0_inverse_20 : decode cX0_inverse 20 = .ok (.ireturn, 1) := by decide +kernel
abbrev cX0_divide : ByteArray := prog_1_method_6_code
def yX0_divide : MethodName := ⟨RX0, "divide", "(II)I"⟩
theorem dX0_divide_0 : decode cX0_divide 0 = .ok (.iload_n 2, 1) := by decide +kernel
theorem dX0_divide_1 : decode cX0_divide 1 = .ok (.sipush 255, 3) := by decide +kernel
theorem dX0_divide_4 : decode cX0_divide 4 = .ok (.iand, 1) := by decide +kernel
theorem dX0_divide_5 : decode cX0_divide 5 = .ok (.ifCond .ne 7, 3) := by decide +kernel
theorem dX0_divide_8 : decode cX0_divide 8 = .ok (.iconst (-1), 1) := by decide +kernel
theorem dX0_divide_9 : decode cX0_divide 9 = .ok (.goto 16, 3) := by decide +kernel
theorem dX0_divide_12 : decode cX0_divide 12 = .ok (.iload_n 1, 1) := by decide +kernel
theorem dX0_divide_13 : decode cX0_divide 13 = .ok (.sipush 255, 3) := by decide +kernel
theorem dX0_divide_16 : decode cX0_divide 16 = .ok (.iand, 1) := by decide +kernel
theorem dX0_divide_17 : decode cX0_divide 17 = .ok (.iload_n 2, 1) := by decide +kernel
theorem dX0_divide_18 : decode cX0_divide 18 = .ok (.sipush 255, 3) := by decide +kernel
theorem dX0_divide_21 : decode cX0_divide 21 = .ok (.iand, 1) := by decide +kernel
theorem dX0_divide_22 : decode cX0_divide 22 = .ok (.invokestatic 30, 3) := by decide +kernel
theorem dX0_divide_25 : decode cX0_divide 25 = .ok (.ireturn, 1) := by decide +kernel
abbrev cX0_hold : ByteArray := prog_1_method_7_code
def yX0_hold : MethodName := ⟨RX0, "hold", "(I)I"⟩
theorem dX0_hold_0 : decode cX0_hold 0 = .ok (.aload_n 0, 1) := by decide +kernel
theorem dX0_hold_1 : decode cX0_hold 1 = .ok (.iload_n 1, 1) := by decide +kernel
theorem dX0_hold_2 : decode cX0_hold 2 = .ok (.sipush 255, 3) := by decide +kernel
theorem dX0_hold_5 : decode cX0_hold 5 = .ok (.iand, 1) := by decide +kernel
theorem dX0_hold_6 : decode cX0_hold 6 = .ok (.putfield 7, 3) := by decide +kernel
theorem dX0_hold_9 : decode cX0_hold 9 = .ok (.aload_n 0, 1) := by decide +kernel
theorem dX0_hold_10 : decode cX0_hold 10 = .ok (.getfield 7, 3) := by decide +kernel
theorem dX0_hold_13 : decode cX0_hold 13 = .ok (.ireturn, 1) := by decide +kernel
abbrev cX0_fold : ByteArray := prog_1_method_8_code
def yX0_fold : MethodName := ⟨RX0, "fold", "(II)I"⟩
theorem dX0_fold_0 : decode cX0_fold 0 = .ok (.aload_n 0, 1) := by decide +kernel
theorem dX0_fold_1 : decode cX0_fold 1 = .ok (.aload_n 0, 1) := by decide +kernel
theorem dX0_fold_2 : decode cX0_fold 2 = .ok (.getfield 7, 3) := by decide +kernel
theorem dX0_fold_5 : decode cX0_fold 5 = .ok (.iload_n 1, 1) := by decide +kernel
theorem dX0_fold_6 : decode cX0_fold 6 = .ok (.sipush 255, 3) := by decide +kernel
theorem dX0_fold_9 : decode cX0_fold 9 = .ok (.iand, 1) := by decide +kernel
theorem dX0_fold_10 : decode cX0_fold 10 = .ok (.invokestatic 13, 3) := by decide +kernel
theorem dX0_fold_13 : decode cX0_fold 13 = .ok (.iload_n 2, 1) := by decide +kernel
theorem dX0_fold_14 : decode cX0_fold 14 = .ok (.sipush 255, 3) := by decide +kernel
theorem dX0_fold_17 : decode cX0_fold 17 = .ok (.iand, 1) := by decide +kernel
theorem dX0_fold_18 : decode cX0_fold 18 = .ok (.ixor, 1) := by decide +kernel
theorem dX0_fold_19 : decode cX0_fold 19 = .ok (.putfield 7, 3) := by decide +kernel
theorem dX0_fold_22 : decode cX0_fold 22 = .ok (.aload_n 0, 1) := by decide +kernel
theorem dX0_fold_23 : decode cX0_fold 23 = .ok (.getfield 7, 3) := by decide +kernel
theorem dX0_fold_26 : decode cX0_fold 26 = .ok (.ireturn, 1) := by decide +kernel
abbrev cX0_power : ByteArray := prog_1_method_9_code
def yX0_power : MethodName := ⟨RX0, "power", "(I)I"⟩
theorem dX0_power_0 : decode cX0_power 0 = .ok (.iconst 1, 1) := by decide +kernel
theorem dX0_power_1 : decode cX0_power 1 = .ok (.istore_n 2, 1) := by decide +kernel
theorem dX0_power_2 : decode cX0_power 2 = .ok (.aload_n 0, 1) := by decide +kernel
theorem dX0_power_3 : decode cX0_power 3 = .ok (.getfield 7, 3) := by decide +kernel
theorem dX0_power_6 : decode cX0_power 6 = .ok (.istore_n 3, 1) := by decide +kernel
theorem dX0_power_7 : decode cX0_power 7 = .ok (.iload_n 1, 1) := by decide +kernel
theorem dX0_power_8 : decode cX0_power 8 = .ok (.sipush 255, 3) := by decide +kernel
theorem dX0_power_11 : decode cX0_power 11 = .ok (.iand, 1) := by decide +kernel
theorem dX0_power_12 : decode cX0_power 12 = .ok (.istore 4, 2) := by decide +kernel
theorem dX0_power_14 : decode cX0_power 14 = .ok (.iload 4, 2) := by decide +kernel
theorem dX0_power_16 : decode cX0_power 16 = .ok (.ifCond .le 31, 3) := by decide +kernel
theorem dX0_power_19 : decode cX0_power 19 = .ok (.iload 4, 2) := by decide +kernel
theorem dX0_power_21 : decode cX0_power 21 = .ok (.iconst 1, 1) := by decide +kernel
theorem dX0_power_22 : decode cX0_power 22 = .ok (.iand, 1) := by decide +kernel
theorem dX0_power_23 : decode cX0_power 23 = .ok (.iconst 1, 1) := by decide +kernel
theorem dX0_power_24 : decode cX0_power 24 = .ok (.if_icmp .ne 9, 3) := by decide +kernel
theorem dX0_power_27 : decode cX0_power 27 = .ok (.iload_n 2, 1) := by decide +kernel
theorem dX0_power_28 : decode cX0_power 28 = .ok (.iload_n 3, 1) := by decide +kernel
theorem dX0_power_29 : decode cX0_power 29 = .ok (.invokestatic 13, 3) := by decide +kernel
theorem dX0_power_32 : decode cX0_power 32 = .ok (.istore_n 2, 1) := by decide +kernel
theorem dX0_power_33 : decode cX0_power 33 = .ok (.iload_n 3, 1) := by decide +kernel
theorem dX0_power_34 : decode cX0_power 34 = .ok (.invokestatic 23, 3) := by decide +kernel
theorem dX0_power_37 : decode cX0_power 37 = .ok (.istore_n 3, 1) := by decide +kernel
theorem dX0_power_38 : decode cX0_power 38 = .ok (.iload 4, 2) := by decide +kernel
theorem dX0_power_40 : decode cX0_power 40 = .ok (.iconst 1, 1) := by decide +kernel
theorem dX0_power_41 : decode cX0_power 41 = .ok (.ishr, 1) := by decide +kernel
theorem dX0_power_42 : decode cX0_power 42 = .ok (.istore 4, 2) := by decide +kernel
theorem dX0_power_44 : decode cX0_power 44 = .ok (.goto (-30), 3) := by decide +kernel
theorem dX0_power_47 : decode cX0_power 47 = .ok (.iload_n 2, 1) := by decide +kernel
theorem dX0_power_48 : decode cX0_power 48 = .ok (.ireturn, 1) := by decide +kernel
set_option maxRecDepth 100000 in
theorem q1 : (Jvm.Cond.initialized "ByteField") ∈ lw_all := lw_g (lw_at lw_m0 1 rfl) rfl
set_option maxRecDepth 100000 in
theorem q5 : (Jvm.Cond.instantiable "ByteField" (1 : Nat)) ∈ lw_all := lw_g (lw_at lw_m0 5 rfl) rfl
set_option maxRecDepth 100000 in
theorem q7 : (Jvm.Cond.instanceMethod ({ cls := "ByteField", name := "<init>", desc := "()V" } : Jvm.MethodName)) ∈ lw_all := lw_g (lw_at lw_m0 7 rfl) rfl
set_option maxRecDepth 100000 in
theorem q8 : (Jvm.Cond.code ({ cls := "ByteField", name := "<init>", desc := "()V" } : Jvm.MethodName) prog_1_method_1_code (1 : Nat) (Option.none : Option Jvm.ClassFile.FieldType)) ∈ lw_all := lw_g (lw_at lw_m0 8 rfl) rfl
set_option maxRecDepth 100000 in
theorem q9 : (Jvm.Cond.methodLink "ByteField" (1 : Nat) ({ cls := "java/lang/Object", name := "<init>", desc := "()V" } : Jvm.MethodName)) ∈ lw_all := lw_g (lw_at lw_m0 9 rfl) rfl
set_option maxRecDepth 100000 in
theorem q12 : (Jvm.Cond.fieldLink "ByteField" (7 : Nat) "ByteField" "held" "I") ∈ lw_all := lw_g (lw_at lw_m0 12 rfl) rfl
set_option maxRecDepth 100000 in
theorem q13 : (Jvm.Cond.lays "ByteField" "ByteField" "held" "I") ∈ lw_all := lw_g (lw_at lw_m0 13 rfl) rfl
set_option maxRecDepth 100000 in
theorem q14 : (Jvm.Cond.soleField "ByteField" "held") ∈ lw_all := lw_g (lw_at lw_m0 14 rfl) rfl
set_option maxRecDepth 100000 in
theorem q15 : (Jvm.Cond.superclass "ByteField" "java/lang/Object") ∈ lw_all := lw_g (lw_at lw_m0 15 rfl) rfl
set_option maxRecDepth 100000 in
theorem q17 : (Jvm.Cond.instanceMethod ({ cls := "ByteField", name := "times", desc := "(II)I" } : Jvm.MethodName)) ∈ lw_all := lw_g (lw_at lw_m0 17 rfl) rfl
set_option maxRecDepth 100000 in
theorem q18 : (Jvm.Cond.selects "ByteField" ({ cls := "ByteField", name := "times", desc := "(II)I" } : Jvm.MethodName) ({ cls := "ByteField", name := "times", desc := "(II)I" } : Jvm.MethodName)) ∈ lw_all := lw_g (lw_at lw_m0 18 rfl) rfl
set_option maxRecDepth 100000 in
theorem q19 : (Jvm.Cond.code ({ cls := "ByteField", name := "times", desc := "(II)I" } : Jvm.MethodName) prog_1_method_2_code (3 : Nat) (Option.some Jvm.ClassFile.FieldType.int)) ∈ lw_all := lw_g (lw_at lw_m0 19 rfl) rfl
set_option maxRecDepth 100000 in
theorem q20 : (Jvm.Cond.methodLink "ByteField" (13 : Nat) ({ cls := "GF", name := "mul", desc := "(II)I" } : Jvm.MethodName)) ∈ lw_all := lw_g (lw_at lw_m0 20 rfl) rfl
set_option maxRecDepth 100000 in
theorem q27 : (Jvm.Cond.instanceMethod ({ cls := "ByteField", name := "timesThree", desc := "(III)I" } : Jvm.MethodName)) ∈ lw_all := lw_g (lw_at lw_m0 27 rfl) rfl
set_option maxRecDepth 100000 in
theorem q28 : (Jvm.Cond.selects "ByteField" ({ cls := "ByteField", name := "timesThree", desc := "(III)I" } : Jvm.MethodName) ({ cls := "ByteField", name := "timesThree", desc := "(III)I" } : Jvm.MethodName)) ∈ lw_all := lw_g (lw_at lw_m0 28 rfl) rfl
set_option maxRecDepth 100000 in
theorem q29 : (Jvm.Cond.code ({ cls := "ByteField", name := "timesThree", desc := "(III)I" } : Jvm.MethodName) prog_1_method_3_code (4 : Nat) (Option.some Jvm.ClassFile.FieldType.int)) ∈ lw_all := lw_g (lw_at lw_m0 29 rfl) rfl
set_option maxRecDepth 100000 in
theorem q30 : (Jvm.Cond.methodLink "ByteField" (19 : Nat) ({ cls := "GF", name := "mul3", desc := "(III)I" } : Jvm.MethodName)) ∈ lw_all := lw_g (lw_at lw_m0 30 rfl) rfl
set_option maxRecDepth 100000 in
theorem q35 : (Jvm.Cond.instanceMethod ({ cls := "ByteField", name := "square", desc := "(I)I" } : Jvm.MethodName)) ∈ lw_all := lw_g (lw_at lw_m0 35 rfl) rfl
set_option maxRecDepth 100000 in
theorem q36 : (Jvm.Cond.selects "ByteField" ({ cls := "ByteField", name := "square", desc := "(I)I" } : Jvm.MethodName) ({ cls := "ByteField", name := "square", desc := "(I)I" } : Jvm.MethodName)) ∈ lw_all := lw_g (lw_at lw_m0 36 rfl) rfl
set_option maxRecDepth 100000 in
theorem q37 : (Jvm.Cond.code ({ cls := "ByteField", name := "square", desc := "(I)I" } : Jvm.MethodName) prog_1_method_4_code (2 : Nat) (Option.some Jvm.ClassFile.FieldType.int)) ∈ lw_all := lw_g (lw_at lw_m0 37 rfl) rfl
set_option maxRecDepth 100000 in
theorem q38 : (Jvm.Cond.methodLink "ByteField" (23 : Nat) ({ cls := "GF", name := "sqr", desc := "(I)I" } : Jvm.MethodName)) ∈ lw_all := lw_g (lw_at lw_m0 38 rfl) rfl
set_option maxRecDepth 100000 in
theorem q42 : (Jvm.Cond.instanceMethod ({ cls := "ByteField", name := "inverse", desc := "(I)I" } : Jvm.MethodName)) ∈ lw_all := lw_g (lw_at lw_m0 42 rfl) rfl
set_option maxRecDepth 100000 in
theorem q43 : (Jvm.Cond.selects "ByteField" ({ cls := "ByteField", name := "inverse", desc := "(I)I" } : Jvm.MethodName) ({ cls := "ByteField", name := "inverse", desc := "(I)I" } : Jvm.MethodName)) ∈ lw_all := lw_g (lw_at lw_m0 43 rfl) rfl
set_option maxRecDepth 100000 in
theorem q44 : (Jvm.Cond.code ({ cls := "ByteField", name := "inverse", desc := "(I)I" } : Jvm.MethodName) prog_1_method_5_code (2 : Nat) (Option.some Jvm.ClassFile.FieldType.int)) ∈ lw_all := lw_g (lw_at lw_m0 44 rfl) rfl
set_option maxRecDepth 100000 in
theorem q45 : (Jvm.Cond.methodLink "ByteField" (27 : Nat) ({ cls := "GF", name := "inv", desc := "(I)I" } : Jvm.MethodName)) ∈ lw_all := lw_g (lw_at lw_m0 45 rfl) rfl
set_option maxRecDepth 100000 in
theorem q50 : (Jvm.Cond.instanceMethod ({ cls := "ByteField", name := "divide", desc := "(II)I" } : Jvm.MethodName)) ∈ lw_all := lw_g (lw_at lw_m0 50 rfl) rfl
set_option maxRecDepth 100000 in
theorem q51 : (Jvm.Cond.selects "ByteField" ({ cls := "ByteField", name := "divide", desc := "(II)I" } : Jvm.MethodName) ({ cls := "ByteField", name := "divide", desc := "(II)I" } : Jvm.MethodName)) ∈ lw_all := lw_g (lw_at lw_m0 51 rfl) rfl
set_option maxRecDepth 100000 in
theorem q52 : (Jvm.Cond.code ({ cls := "ByteField", name := "divide", desc := "(II)I" } : Jvm.MethodName) prog_1_method_6_code (3 : Nat) (Option.some Jvm.ClassFile.FieldType.int)) ∈ lw_all := lw_g (lw_at lw_m0 52 rfl) rfl
set_option maxRecDepth 100000 in
theorem q53 : (Jvm.Cond.methodLink "ByteField" (30 : Nat) ({ cls := "GF", name := "div", desc := "(II)I" } : Jvm.MethodName)) ∈ lw_all := lw_g (lw_at lw_m0 53 rfl) rfl
set_option maxRecDepth 100000 in
theorem q58 : (Jvm.Cond.instanceMethod ({ cls := "ByteField", name := "hold", desc := "(I)I" } : Jvm.MethodName)) ∈ lw_all := lw_g (lw_at lw_m0 58 rfl) rfl
set_option maxRecDepth 100000 in
theorem q59 : (Jvm.Cond.selects "ByteField" ({ cls := "ByteField", name := "hold", desc := "(I)I" } : Jvm.MethodName) ({ cls := "ByteField", name := "hold", desc := "(I)I" } : Jvm.MethodName)) ∈ lw_all := lw_g (lw_at lw_m0 59 rfl) rfl
set_option maxRecDepth 100000 in
theorem q60 : (Jvm.Cond.code ({ cls := "ByteField", name := "hold", desc := "(I)I" } : Jvm.MethodName) prog_1_method_7_code (2 : Nat) (Option.some Jvm.ClassFile.FieldType.int)) ∈ lw_all := lw_g (lw_at lw_m0 60 rfl) rfl
set_option maxRecDepth 100000 in
theorem q62 : (Jvm.Cond.instanceMethod ({ cls := "ByteField", name := "fold", desc := "(II)I" } : Jvm.MethodName)) ∈ lw_all := lw_g (lw_at lw_m0 62 rfl) rfl
set_option maxRecDepth 100000 in
theorem q63 : (Jvm.Cond.selects "ByteField" ({ cls := "ByteField", name := "fold", desc := "(II)I" } : Jvm.MethodName) ({ cls := "ByteField", name := "fold", desc := "(II)I" } : Jvm.MethodName)) ∈ lw_all := lw_g (lw_at lw_m0 63 rfl) rfl
set_option maxRecDepth 100000 in
theorem q64 : (Jvm.Cond.code ({ cls := "ByteField", name := "fold", desc := "(II)I" } : Jvm.MethodName) prog_1_method_8_code (3 : Nat) (Option.some Jvm.ClassFile.FieldType.int)) ∈ lw_all := lw_g (lw_at lw_m0 64 rfl) rfl
set_option maxRecDepth 100000 in
theorem q66 : (Jvm.Cond.instanceMethod ({ cls := "ByteField", name := "power", desc := "(I)I" } : Jvm.MethodName)) ∈ lw_all := lw_g (lw_at lw_m0 66 rfl) rfl
set_option maxRecDepth 100000 in
theorem q67 : (Jvm.Cond.selects "ByteField" ({ cls := "ByteField", name := "power", desc := "(I)I" } : Jvm.MethodName) ({ cls := "ByteField", name := "power", desc := "(I)I" } : Jvm.MethodName)) ∈ lw_all := lw_g (lw_at lw_m0 67 rfl) rfl
set_option maxRecDepth 100000 in
theorem q68 : (Jvm.Cond.code ({ cls := "ByteField", name := "power", desc := "(I)I" } : Jvm.MethodName) prog_1_method_9_code (5 : Nat) (Option.some Jvm.ClassFile.FieldType.int)) ∈ lw_all := lw_g (lw_at lw_m0 68 rfl) rfl
set_option maxRecDepth 100000 in
theorem in_X0 : ∀ w ∈ wsX00, w ∈ lw_all := lw_in wsX00 [13] (by decide +kernel) (by decide +kernel)
end
section
/-! the law's own entry -/
abbrev cL_law : ByteArray := code
theorem dL_law_0 : decode cL_law 0 = .ok (.new 7, 3) := by decide +kernel
theorem dL_law_3 : decode cL_law 3 = .ok (.dup, 1) := by decide +kernel
theorem dL_law_4 : decode cL_law 4 = .ok (.invokespecial 9, 3) := by decide +kernel
theorem dL_law_7 : decode cL_law 7 = .ok (.astore_n 1, 1) := by decide +kernel
theorem dL_law_8 : decode cL_law 8 = .ok (.new 10, 3) := by decide +kernel
theorem dL_law_11 : decode cL_law 11 = .ok (.dup, 1) := by decide +kernel
theorem dL_law_12 : decode cL_law 12 = .ok (.invokespecial 12, 3) := by decide +kernel
theorem dL_law_15 : decode cL_law 15 = .ok (.astore_n 2, 1) := by decide +kernel
theorem dL_law_16 : decode cL_law 16 = .ok (.iconst 0, 1) := by decide +kernel
theorem dL_law_17 : decode cL_law 17 = .ok (.istore_n 3, 1) := by decide +kernel
theorem dL_law_18 : decode cL_law 18 = .ok (.iload_n 3, 1) := by decide +kernel
theorem dL_law_19 : decode cL_law 19 = .ok (.aload_n 0, 1) := by decide +kernel
theorem dL_law_20 : decode cL_law 20 = .ok (.arraylength, 1) := by decide +kernel
theorem dL_law_21 : decode cL_law 21 = .ok (.bipush 6, 2) := by decide +kernel
theorem dL_law_23 : decode cL_law 23 = .ok (.isub, 1) := by decide +kernel
theorem dL_law_24 : decode cL_law 24 = .ok (.if_icmp .gt 296, 3) := by decide +kernel
theorem dL_law_27 : decode cL_law 27 = .ok (.aload_n 0, 1) := by decide +kernel
theorem dL_law_28 : decode cL_law 28 = .ok (.iload_n 3, 1) := by decide +kernel
theorem dL_law_29 : decode cL_law 29 = .ok (.iaload, 1) := by decide +kernel
theorem dL_law_30 : decode cL_law 30 = .ok (.bipush 7, 2) := by decide +kernel
theorem dL_law_32 : decode cL_law 32 = .ok (.iand, 1) := by decide +kernel
theorem dL_law_33 : decode cL_law 33 = .ok (.tableswitch 281 0 7 #[47, 80, 123, 146, 169, 202, 225, 258], 47) := by decide +kernel
theorem dL_law_80 : decode cL_law 80 = .ok (.aload_n 1, 1) := by decide +kernel
theorem dL_law_81 : decode cL_law 81 = .ok (.aload_n 0, 1) := by decide +kernel
theorem dL_law_82 : decode cL_law 82 = .ok (.iload_n 3, 1) := by decide +kernel
theorem dL_law_83 : decode cL_law 83 = .ok (.iconst 1, 1) := by decide +kernel
theorem dL_law_84 : decode cL_law 84 = .ok (.iadd, 1) := by decide +kernel
theorem dL_law_85 : decode cL_law 85 = .ok (.iaload, 1) := by decide +kernel
theorem dL_law_86 : decode cL_law 86 = .ok (.aload_n 0, 1) := by decide +kernel
theorem dL_law_87 : decode cL_law 87 = .ok (.iload_n 3, 1) := by decide +kernel
theorem dL_law_88 : decode cL_law 88 = .ok (.iconst 2, 1) := by decide +kernel
theorem dL_law_89 : decode cL_law 89 = .ok (.iadd, 1) := by decide +kernel
theorem dL_law_90 : decode cL_law 90 = .ok (.iaload, 1) := by decide +kernel
theorem dL_law_91 : decode cL_law 91 = .ok (.invokevirtual 13, 3) := by decide +kernel
theorem dL_law_94 : decode cL_law 94 = .ok (.aload_n 2, 1) := by decide +kernel
theorem dL_law_95 : decode cL_law 95 = .ok (.aload_n 0, 1) := by decide +kernel
theorem dL_law_96 : decode cL_law 96 = .ok (.iload_n 3, 1) := by decide +kernel
theorem dL_law_97 : decode cL_law 97 = .ok (.iconst 1, 1) := by decide +kernel
theorem dL_law_98 : decode cL_law 98 = .ok (.iadd, 1) := by decide +kernel
theorem dL_law_99 : decode cL_law 99 = .ok (.iaload, 1) := by decide +kernel
theorem dL_law_100 : decode cL_law 100 = .ok (.aload_n 0, 1) := by decide +kernel
theorem dL_law_101 : decode cL_law 101 = .ok (.iload_n 3, 1) := by decide +kernel
theorem dL_law_102 : decode cL_law 102 = .ok (.iconst 2, 1) := by decide +kernel
theorem dL_law_103 : decode cL_law 103 = .ok (.iadd, 1) := by decide +kernel
theorem dL_law_104 : decode cL_law 104 = .ok (.iaload, 1) := by decide +kernel
theorem dL_law_105 : decode cL_law 105 = .ok (.invokevirtual 17, 3) := by decide +kernel
theorem dL_law_108 : decode cL_law 108 = .ok (.if_icmp .eq 206, 3) := by decide +kernel
theorem dL_law_111 : decode cL_law 111 = .ok (.iconst 0, 1) := by decide +kernel
theorem dL_law_112 : decode cL_law 112 = .ok (.ireturn, 1) := by decide +kernel
theorem dL_law_113 : decode cL_law 113 = .ok (.aload_n 1, 1) := by decide +kernel
theorem dL_law_114 : decode cL_law 114 = .ok (.aload_n 0, 1) := by decide +kernel
theorem dL_law_115 : decode cL_law 115 = .ok (.iload_n 3, 1) := by decide +kernel
theorem dL_law_116 : decode cL_law 116 = .ok (.iconst 1, 1) := by decide +kernel
theorem dL_law_117 : decode cL_law 117 = .ok (.iadd, 1) := by decide +kernel
theorem dL_law_118 : decode cL_law 118 = .ok (.iaload, 1) := by decide +kernel
theorem dL_law_119 : decode cL_law 119 = .ok (.aload_n 0, 1) := by decide +kernel
theorem dL_law_120 : decode cL_law 120 = .ok (.iload_n 3, 1) := by decide +kernel
theorem dL_law_121 : decode cL_law 121 = .ok (.iconst 2, 1) := by decide +kernel
theorem dL_law_122 : decode cL_law 122 = .ok (.iadd, 1) := by decide +kernel
theorem dL_law_123 : decode cL_law 123 = .ok (.iaload, 1) := by decide +kernel
theorem dL_law_124 : decode cL_law 124 = .ok (.aload_n 0, 1) := by decide +kernel
theorem dL_law_125 : decode cL_law 125 = .ok (.iload_n 3, 1) := by decide +kernel
theorem dL_law_126 : decode cL_law 126 = .ok (.iconst 3, 1) := by decide +kernel
theorem dL_law_127 : decode cL_law 127 = .ok (.iadd, 1) := by decide +kernel
theorem dL_law_128 : decode cL_law 128 = .ok (.iaload, 1) := by decide +kernel
theorem dL_law_129 : decode cL_law 129 = .ok (.invokevirtual 18, 3) := by decide +kernel
theorem dL_law_132 : decode cL_law 132 = .ok (.aload_n 2, 1) := by decide +kernel
theorem dL_law_133 : decode cL_law 133 = .ok (.aload_n 0, 1) := by decide +kernel
theorem dL_law_134 : decode cL_law 134 = .ok (.iload_n 3, 1) := by decide +kernel
theorem dL_law_135 : decode cL_law 135 = .ok (.iconst 1, 1) := by decide +kernel
theorem dL_law_136 : decode cL_law 136 = .ok (.iadd, 1) := by decide +kernel
theorem dL_law_137 : decode cL_law 137 = .ok (.iaload, 1) := by decide +kernel
theorem dL_law_138 : decode cL_law 138 = .ok (.aload_n 0, 1) := by decide +kernel
theorem dL_law_139 : decode cL_law 139 = .ok (.iload_n 3, 1) := by decide +kernel
theorem dL_law_140 : decode cL_law 140 = .ok (.iconst 2, 1) := by decide +kernel
theorem dL_law_141 : decode cL_law 141 = .ok (.iadd, 1) := by decide +kernel
theorem dL_law_142 : decode cL_law 142 = .ok (.iaload, 1) := by decide +kernel
theorem dL_law_143 : decode cL_law 143 = .ok (.aload_n 0, 1) := by decide +kernel
theorem dL_law_144 : decode cL_law 144 = .ok (.iload_n 3, 1) := by decide +kernel
theorem dL_law_145 : decode cL_law 145 = .ok (.iconst 3, 1) := by decide +kernel
theorem dL_law_146 : decode cL_law 146 = .ok (.iadd, 1) := by decide +kernel
theorem dL_law_147 : decode cL_law 147 = .ok (.iaload, 1) := by decide +kernel
theorem dL_law_148 : decode cL_law 148 = .ok (.invokevirtual 22, 3) := by decide +kernel
theorem dL_law_151 : decode cL_law 151 = .ok (.if_icmp .eq 163, 3) := by decide +kernel
theorem dL_law_154 : decode cL_law 154 = .ok (.iconst 0, 1) := by decide +kernel
theorem dL_law_155 : decode cL_law 155 = .ok (.ireturn, 1) := by decide +kernel
theorem dL_law_156 : decode cL_law 156 = .ok (.aload_n 1, 1) := by decide +kernel
theorem dL_law_157 : decode cL_law 157 = .ok (.aload_n 0, 1) := by decide +kernel
theorem dL_law_158 : decode cL_law 158 = .ok (.iload_n 3, 1) := by decide +kernel
theorem dL_law_159 : decode cL_law 159 = .ok (.iconst 1, 1) := by decide +kernel
theorem dL_law_160 : decode cL_law 160 = .ok (.iadd, 1) := by decide +kernel
theorem dL_law_161 : decode cL_law 161 = .ok (.iaload, 1) := by decide +kernel
theorem dL_law_162 : decode cL_law 162 = .ok (.invokevirtual 23, 3) := by decide +kernel
theorem dL_law_165 : decode cL_law 165 = .ok (.aload_n 2, 1) := by decide +kernel
theorem dL_law_166 : decode cL_law 166 = .ok (.aload_n 0, 1) := by decide +kernel
theorem dL_law_167 : decode cL_law 167 = .ok (.iload_n 3, 1) := by decide +kernel
theorem dL_law_168 : decode cL_law 168 = .ok (.iconst 1, 1) := by decide +kernel
theorem dL_law_169 : decode cL_law 169 = .ok (.iadd, 1) := by decide +kernel
theorem dL_law_170 : decode cL_law 170 = .ok (.iaload, 1) := by decide +kernel
theorem dL_law_171 : decode cL_law 171 = .ok (.invokevirtual 27, 3) := by decide +kernel
theorem dL_law_174 : decode cL_law 174 = .ok (.if_icmp .eq 140, 3) := by decide +kernel
theorem dL_law_177 : decode cL_law 177 = .ok (.iconst 0, 1) := by decide +kernel
theorem dL_law_178 : decode cL_law 178 = .ok (.ireturn, 1) := by decide +kernel
theorem dL_law_179 : decode cL_law 179 = .ok (.aload_n 1, 1) := by decide +kernel
theorem dL_law_180 : decode cL_law 180 = .ok (.aload_n 0, 1) := by decide +kernel
theorem dL_law_181 : decode cL_law 181 = .ok (.iload_n 3, 1) := by decide +kernel
theorem dL_law_182 : decode cL_law 182 = .ok (.iconst 1, 1) := by decide +kernel
theorem dL_law_183 : decode cL_law 183 = .ok (.iadd, 1) := by decide +kernel
theorem dL_law_184 : decode cL_law 184 = .ok (.iaload, 1) := by decide +kernel
theorem dL_law_185 : decode cL_law 185 = .ok (.invokevirtual 28, 3) := by decide +kernel
theorem dL_law_188 : decode cL_law 188 = .ok (.aload_n 2, 1) := by decide +kernel
theorem dL_law_189 : decode cL_law 189 = .ok (.aload_n 0, 1) := by decide +kernel
theorem dL_law_190 : decode cL_law 190 = .ok (.iload_n 3, 1) := by decide +kernel
theorem dL_law_191 : decode cL_law 191 = .ok (.iconst 1, 1) := by decide +kernel
theorem dL_law_192 : decode cL_law 192 = .ok (.iadd, 1) := by decide +kernel
theorem dL_law_193 : decode cL_law 193 = .ok (.iaload, 1) := by decide +kernel
theorem dL_law_194 : decode cL_law 194 = .ok (.invokevirtual 31, 3) := by decide +kernel
theorem dL_law_197 : decode cL_law 197 = .ok (.if_icmp .eq 117, 3) := by decide +kernel
theorem dL_law_200 : decode cL_law 200 = .ok (.iconst 0, 1) := by decide +kernel
theorem dL_law_201 : decode cL_law 201 = .ok (.ireturn, 1) := by decide +kernel
theorem dL_law_202 : decode cL_law 202 = .ok (.aload_n 1, 1) := by decide +kernel
theorem dL_law_203 : decode cL_law 203 = .ok (.aload_n 0, 1) := by decide +kernel
theorem dL_law_204 : decode cL_law 204 = .ok (.iload_n 3, 1) := by decide +kernel
theorem dL_law_205 : decode cL_law 205 = .ok (.iconst 1, 1) := by decide +kernel
theorem dL_law_206 : decode cL_law 206 = .ok (.iadd, 1) := by decide +kernel
theorem dL_law_207 : decode cL_law 207 = .ok (.iaload, 1) := by decide +kernel
theorem dL_law_208 : decode cL_law 208 = .ok (.aload_n 0, 1) := by decide +kernel
theorem dL_law_209 : decode cL_law 209 = .ok (.iload_n 3, 1) := by decide +kernel
theorem dL_law_210 : decode cL_law 210 = .ok (.iconst 2, 1) := by decide +kernel
theorem dL_law_211 : decode cL_law 211 = .ok (.iadd, 1) := by decide +kernel
theorem dL_law_212 : decode cL_law 212 = .ok (.iaload, 1) := by decide +kernel
theorem dL_law_213 : decode cL_law 213 = .ok (.invokevirtual 32, 3) := by decide +kernel
theorem dL_law_216 : decode cL_law 216 = .ok (.aload_n 2, 1) := by decide +kernel
theorem dL_law_217 : decode cL_law 217 = .ok (.aload_n 0, 1) := by decide +kernel
theorem dL_law_218 : decode cL_law 218 = .ok (.iload_n 3, 1) := by decide +kernel
theorem dL_law_219 : decode cL_law 219 = .ok (.iconst 1, 1) := by decide +kernel
theorem dL_law_220 : decode cL_law 220 = .ok (.iadd, 1) := by decide +kernel
theorem dL_law_221 : decode cL_law 221 = .ok (.iaload, 1) := by decide +kernel
theorem dL_law_222 : decode cL_law 222 = .ok (.aload_n 0, 1) := by decide +kernel
theorem dL_law_223 : decode cL_law 223 = .ok (.iload_n 3, 1) := by decide +kernel
theorem dL_law_224 : decode cL_law 224 = .ok (.iconst 2, 1) := by decide +kernel
theorem dL_law_225 : decode cL_law 225 = .ok (.iadd, 1) := by decide +kernel
theorem dL_law_226 : decode cL_law 226 = .ok (.iaload, 1) := by decide +kernel
theorem dL_law_227 : decode cL_law 227 = .ok (.invokevirtual 35, 3) := by decide +kernel
theorem dL_law_230 : decode cL_law 230 = .ok (.if_icmp .eq 84, 3) := by decide +kernel
theorem dL_law_233 : decode cL_law 233 = .ok (.iconst 0, 1) := by decide +kernel
theorem dL_law_234 : decode cL_law 234 = .ok (.ireturn, 1) := by decide +kernel
theorem dL_law_235 : decode cL_law 235 = .ok (.aload_n 1, 1) := by decide +kernel
theorem dL_law_236 : decode cL_law 236 = .ok (.aload_n 0, 1) := by decide +kernel
theorem dL_law_237 : decode cL_law 237 = .ok (.iload_n 3, 1) := by decide +kernel
theorem dL_law_238 : decode cL_law 238 = .ok (.iconst 1, 1) := by decide +kernel
theorem dL_law_239 : decode cL_law 239 = .ok (.iadd, 1) := by decide +kernel
theorem dL_law_240 : decode cL_law 240 = .ok (.iaload, 1) := by decide +kernel
theorem dL_law_241 : decode cL_law 241 = .ok (.invokevirtual 36, 3) := by decide +kernel
theorem dL_law_244 : decode cL_law 244 = .ok (.aload_n 2, 1) := by decide +kernel
theorem dL_law_245 : decode cL_law 245 = .ok (.aload_n 0, 1) := by decide +kernel
theorem dL_law_246 : decode cL_law 246 = .ok (.iload_n 3, 1) := by decide +kernel
theorem dL_law_247 : decode cL_law 247 = .ok (.iconst 1, 1) := by decide +kernel
theorem dL_law_248 : decode cL_law 248 = .ok (.iadd, 1) := by decide +kernel
theorem dL_law_249 : decode cL_law 249 = .ok (.iaload, 1) := by decide +kernel
theorem dL_law_250 : decode cL_law 250 = .ok (.invokevirtual 39, 3) := by decide +kernel
theorem dL_law_253 : decode cL_law 253 = .ok (.if_icmp .eq 61, 3) := by decide +kernel
theorem dL_law_256 : decode cL_law 256 = .ok (.iconst 0, 1) := by decide +kernel
theorem dL_law_257 : decode cL_law 257 = .ok (.ireturn, 1) := by decide +kernel
theorem dL_law_258 : decode cL_law 258 = .ok (.aload_n 1, 1) := by decide +kernel
theorem dL_law_259 : decode cL_law 259 = .ok (.aload_n 0, 1) := by decide +kernel
theorem dL_law_260 : decode cL_law 260 = .ok (.iload_n 3, 1) := by decide +kernel
theorem dL_law_261 : decode cL_law 261 = .ok (.iconst 1, 1) := by decide +kernel
theorem dL_law_262 : decode cL_law 262 = .ok (.iadd, 1) := by decide +kernel
theorem dL_law_263 : decode cL_law 263 = .ok (.iaload, 1) := by decide +kernel
theorem dL_law_264 : decode cL_law 264 = .ok (.aload_n 0, 1) := by decide +kernel
theorem dL_law_265 : decode cL_law 265 = .ok (.iload_n 3, 1) := by decide +kernel
theorem dL_law_266 : decode cL_law 266 = .ok (.iconst 2, 1) := by decide +kernel
theorem dL_law_267 : decode cL_law 267 = .ok (.iadd, 1) := by decide +kernel
theorem dL_law_268 : decode cL_law 268 = .ok (.iaload, 1) := by decide +kernel
theorem dL_law_269 : decode cL_law 269 = .ok (.invokevirtual 40, 3) := by decide +kernel
theorem dL_law_272 : decode cL_law 272 = .ok (.aload_n 2, 1) := by decide +kernel
theorem dL_law_273 : decode cL_law 273 = .ok (.aload_n 0, 1) := by decide +kernel
theorem dL_law_274 : decode cL_law 274 = .ok (.iload_n 3, 1) := by decide +kernel
theorem dL_law_275 : decode cL_law 275 = .ok (.iconst 1, 1) := by decide +kernel
theorem dL_law_276 : decode cL_law 276 = .ok (.iadd, 1) := by decide +kernel
theorem dL_law_277 : decode cL_law 277 = .ok (.iaload, 1) := by decide +kernel
theorem dL_law_278 : decode cL_law 278 = .ok (.aload_n 0, 1) := by decide +kernel
theorem dL_law_279 : decode cL_law 279 = .ok (.iload_n 3, 1) := by decide +kernel
theorem dL_law_280 : decode cL_law 280 = .ok (.iconst 2, 1) := by decide +kernel
theorem dL_law_281 : decode cL_law 281 = .ok (.iadd, 1) := by decide +kernel
theorem dL_law_282 : decode cL_law 282 = .ok (.iaload, 1) := by decide +kernel
theorem dL_law_283 : decode cL_law 283 = .ok (.invokevirtual 43, 3) := by decide +kernel
theorem dL_law_286 : decode cL_law 286 = .ok (.if_icmp .eq 28, 3) := by decide +kernel
theorem dL_law_289 : decode cL_law 289 = .ok (.iconst 0, 1) := by decide +kernel
theorem dL_law_290 : decode cL_law 290 = .ok (.ireturn, 1) := by decide +kernel
theorem dL_law_291 : decode cL_law 291 = .ok (.aload_n 1, 1) := by decide +kernel
theorem dL_law_292 : decode cL_law 292 = .ok (.aload_n 0, 1) := by decide +kernel
theorem dL_law_293 : decode cL_law 293 = .ok (.iload_n 3, 1) := by decide +kernel
theorem dL_law_294 : decode cL_law 294 = .ok (.iconst 1, 1) := by decide +kernel
theorem dL_law_295 : decode cL_law 295 = .ok (.iadd, 1) := by decide +kernel
theorem dL_law_296 : decode cL_law 296 = .ok (.iaload, 1) := by decide +kernel
theorem dL_law_297 : decode cL_law 297 = .ok (.invokevirtual 44, 3) := by decide +kernel
theorem dL_law_300 : decode cL_law 300 = .ok (.aload_n 2, 1) := by decide +kernel
theorem dL_law_301 : decode cL_law 301 = .ok (.aload_n 0, 1) := by decide +kernel
theorem dL_law_302 : decode cL_law 302 = .ok (.iload_n 3, 1) := by decide +kernel
theorem dL_law_303 : decode cL_law 303 = .ok (.iconst 1, 1) := by decide +kernel
theorem dL_law_304 : decode cL_law 304 = .ok (.iadd, 1) := by decide +kernel
theorem dL_law_305 : decode cL_law 305 = .ok (.iaload, 1) := by decide +kernel
theorem dL_law_306 : decode cL_law 306 = .ok (.invokevirtual 47, 3) := by decide +kernel
theorem dL_law_309 : decode cL_law 309 = .ok (.if_icmp .eq 5, 3) := by decide +kernel
theorem dL_law_312 : decode cL_law 312 = .ok (.iconst 0, 1) := by decide +kernel
theorem dL_law_313 : decode cL_law 313 = .ok (.ireturn, 1) := by decide +kernel
theorem dL_law_314 : decode cL_law 314 = .ok (.iinc 3 6, 3) := by decide +kernel
theorem dL_law_317 : decode cL_law 317 = .ok (.goto (-299), 3) := by decide +kernel
theorem dL_law_320 : decode cL_law 320 = .ok (.iconst 1, 1) := by decide +kernel
theorem dL_law_321 : decode cL_law 321 = .ok (.ireturn, 1) := by decide +kernel
set_option maxRecDepth 100000 in
theorem q0 : (Jvm.Cond.initialized "ByteFieldLaw") ∈ lw_all := lw_g (lw_at lw_m0 0 rfl) rfl
set_option maxRecDepth 100000 in
theorem q4 : (Jvm.Cond.classLink "ByteFieldLaw" (7 : Nat) "ByteField") ∈ lw_all := lw_g (lw_at lw_m0 4 rfl) rfl
set_option maxRecDepth 100000 in
theorem q6 : (Jvm.Cond.methodLink "ByteFieldLaw" (9 : Nat) ({ cls := "ByteField", name := "<init>", desc := "()V" } : Jvm.MethodName)) ∈ lw_all := lw_g (lw_at lw_m0 6 rfl) rfl
set_option maxRecDepth 100000 in
theorem q16 : (Jvm.Cond.methodLink "ByteFieldLaw" (13 : Nat) ({ cls := "ByteField", name := "times", desc := "(II)I" } : Jvm.MethodName)) ∈ lw_all := lw_g (lw_at lw_m0 16 rfl) rfl
set_option maxRecDepth 100000 in
theorem q26 : (Jvm.Cond.methodLink "ByteFieldLaw" (18 : Nat) ({ cls := "ByteField", name := "timesThree", desc := "(III)I" } : Jvm.MethodName)) ∈ lw_all := lw_g (lw_at lw_m0 26 rfl) rfl
set_option maxRecDepth 100000 in
theorem q34 : (Jvm.Cond.methodLink "ByteFieldLaw" (23 : Nat) ({ cls := "ByteField", name := "square", desc := "(I)I" } : Jvm.MethodName)) ∈ lw_all := lw_g (lw_at lw_m0 34 rfl) rfl
set_option maxRecDepth 100000 in
theorem q41 : (Jvm.Cond.methodLink "ByteFieldLaw" (28 : Nat) ({ cls := "ByteField", name := "inverse", desc := "(I)I" } : Jvm.MethodName)) ∈ lw_all := lw_g (lw_at lw_m0 41 rfl) rfl
set_option maxRecDepth 100000 in
theorem q49 : (Jvm.Cond.methodLink "ByteFieldLaw" (32 : Nat) ({ cls := "ByteField", name := "divide", desc := "(II)I" } : Jvm.MethodName)) ∈ lw_all := lw_g (lw_at lw_m0 49 rfl) rfl
set_option maxRecDepth 100000 in
theorem q57 : (Jvm.Cond.methodLink "ByteFieldLaw" (36 : Nat) ({ cls := "ByteField", name := "hold", desc := "(I)I" } : Jvm.MethodName)) ∈ lw_all := lw_g (lw_at lw_m0 57 rfl) rfl
set_option maxRecDepth 100000 in
theorem q61 : (Jvm.Cond.methodLink "ByteFieldLaw" (40 : Nat) ({ cls := "ByteField", name := "fold", desc := "(II)I" } : Jvm.MethodName)) ∈ lw_all := lw_g (lw_at lw_m0 61 rfl) rfl
set_option maxRecDepth 100000 in
theorem q65 : (Jvm.Cond.methodLink "ByteFieldLaw" (44 : Nat) ({ cls := "ByteField", name := "power", desc := "(I)I" } : Jvm.MethodName)) ∈ lw_all := lw_g (lw_at lw_m0 65 rfl) rfl
set_option maxRecDepth 100000 in
theorem q69 : (Jvm.Cond.classLink "ByteFieldLaw" (10 : Nat) "ByteFieldModel") ∈ lw_all := lw_g (lw_at lw_m0 69 rfl) rfl
set_option maxRecDepth 100000 in
theorem q71 : (Jvm.Cond.methodLink "ByteFieldLaw" (12 : Nat) ({ cls := "ByteFieldModel", name := "<init>", desc := "()V" } : Jvm.MethodName)) ∈ lw_all := lw_g (lw_at lw_m0 71 rfl) rfl
set_option maxRecDepth 100000 in
theorem q79 : (Jvm.Cond.methodLink "ByteFieldLaw" (17 : Nat) ({ cls := "ByteFieldModel", name := "times", desc := "(II)I" } : Jvm.MethodName)) ∈ lw_all := lw_g (lw_at lw_m0 79 rfl) rfl
set_option maxRecDepth 100000 in
theorem q86 : (Jvm.Cond.methodLink "ByteFieldLaw" (22 : Nat) ({ cls := "ByteFieldModel", name := "timesThree", desc := "(III)I" } : Jvm.MethodName)) ∈ lw_all := lw_g (lw_at lw_m0 86 rfl) rfl
set_option maxRecDepth 100000 in
theorem q90 : (Jvm.Cond.methodLink "ByteFieldLaw" (27 : Nat) ({ cls := "ByteFieldModel", name := "square", desc := "(I)I" } : Jvm.MethodName)) ∈ lw_all := lw_g (lw_at lw_m0 90 rfl) rfl
set_option maxRecDepth 100000 in
theorem q94 : (Jvm.Cond.methodLink "ByteFieldLaw" (31 : Nat) ({ cls := "ByteFieldModel", name := "inverse", desc := "(I)I" } : Jvm.MethodName)) ∈ lw_all := lw_g (lw_at lw_m0 94 rfl) rfl
set_option maxRecDepth 100000 in
theorem q101 : (Jvm.Cond.methodLink "ByteFieldLaw" (35 : Nat) ({ cls := "ByteFieldModel", name := "divide", desc := "(II)I" } : Jvm.MethodName)) ∈ lw_all := lw_g (lw_at lw_m0 101 rfl) rfl
set_option maxRecDepth 100000 in
theorem q105 : (Jvm.Cond.methodLink "ByteFieldLaw" (39 : Nat) ({ cls := "ByteFieldModel", name := "hold", desc := "(I)I" } : Jvm.MethodName)) ∈ lw_all := lw_g (lw_at lw_m0 105 rfl) rfl
set_option maxRecDepth 100000 in
theorem q109 : (Jvm.Cond.methodLink "ByteFieldLaw" (43 : Nat) ({ cls := "ByteFieldModel", name := "fold", desc := "(II)I" } : Jvm.MethodName)) ∈ lw_all := lw_g (lw_at lw_m0 109 rfl) rfl
set_option maxRecDepth 100000 in
theorem q113 : (Jvm.Cond.methodLink "ByteFieldLaw" (47 : Nat) ({ cls := "ByteFieldModel", name := "power", desc := "(I)I" } : Jvm.MethodName)) ∈ lw_all := lw_g (lw_at lw_m0 113 rfl) rfl
end
section
/-! PURE CALLS: a method that changes no cell -/
abbrev wsX2_reduce : List Cond := ws_ yX2_reduce cX2_reduce 3 (some .int)
abbrev wsX2_mul : List Cond := ws_ yX2_mul cX2_mul 5 (some .int)
abbrev wsX2_mul3 : List Cond := ws_ yX2_mul3 cX2_mul3 3 (some .int)
abbrev wsX2_sqr : List Cond := ws_ yX2_sqr cX2_sqr 2 (some .int)
abbrev wsX2_inv : List Cond := ws_ yX2_inv cX2_inv 13 (some .int)
abbrev wsX2_div : List Cond := ws_ yX2_div cX2_div 2 (some .int)
abbrev wsX1_init : List Cond := ws_ yX1_init cX1_init 1 none
abbrev wsX1_times : List Cond := ws_ yX1_times cX1_times 3 (some .int)
abbrev wsX1_product : List Cond := ws_ yX1_product cX1_product 4 (some .int)
abbrev wsX1_timesThree : List Cond := ws_ yX1_timesThree cX1_timesThree 4 (some .int)
abbrev wsX1_square : List Cond := ws_ yX1_square cX1_square 2 (some .int)
abbrev wsX1_inverse : List Cond := ws_ yX1_inverse cX1_inverse 2 (some .int)
abbrev wsX1_quotient : List Cond := ws_ yX1_quotient cX1_quotient 3 (some .int)
abbrev wsX1_divide : List Cond := ws_ yX1_divide cX1_divide 3 (some .int)
abbrev wsX1_hold : List Cond := ws_ yX1_hold cX1_hold 2 (some .int)
abbrev wsX1_fold : List Cond := ws_ yX1_fold cX1_fold 3 (some .int)
abbrev wsX1_power : List Cond := ws_ yX1_power cX1_power 4 (some .int)
abbrev wsX0_init : List Cond := ws_ yX0_init cX0_init 1 none
abbrev wsX0_times : List Cond := ws_ yX0_times cX0_times 3 (some .int)
abbrev wsX0_timesThree : List Cond := ws_ yX0_timesThree cX0_timesThree 4 (some .int)
abbrev wsX0_square : List Cond := ws_ yX0_square cX0_square 2 (some .int)
abbrev wsX0_inverse : List Cond := ws_ yX0_inverse cX0_inverse 2 (some .int)
abbrev wsX0_divide : List Cond := ws_ yX0_divide cX0_divide 3 (some .int)
abbrev wsX0_hold : List Cond := ws_ yX0_hold cX0_hold 2 (some .int)
abbrev wsX0_fold : List Cond := ws_ yX0_fold cX0_fold 3 (some .int)
abbrev wsX0_power : List Cond := ws_ yX0_power cX0_power 5 (some .int)
abbrev vwCl : List vw_C := [(RX0, TX0, 1), (RX1, TX1, 1)]
abbrev ff_F : Nat → Prop := fun _ => False
/-- a pure start: the arguments alone -/
abbrev ff_P (As : List Value) : Array Value → State → Prop := va_Pc As (fun _ => True)
/-- a pure end: the answer is v, no old cell is changed -/
abbrev ff_Q (v : Int32) : Array Value → State → Outcome → State → Prop := va_Qi (fun (r : Int32) (_ : Unit) => r = v) (fun _ _ => True) ff_F
theorem ff_blind (As : List Value) : FrameBlind (ff_P As) := fun _ _ _ _ h => ⟨h.1, trivial⟩
theorem ff_keep {D : va_G} {cl : List vw_C} {ws : va_W} {H H1 : Heap} (hP : va_P D cl ws H) (hk : ∀ q : Nat, q < H.size → H1[q]? = H[q]?) : va_P D cl ws H1 := hP.kept (fun k q h => hk q.1 ((hP k q h).lt))
section FFC
variable {p : Program} {l : Launch} {e : Env} {R : Room} {s : State} {m : MethodId} {args : Array Value} {below : List Frame} {meth : Method} {c : Code} {H : Heap} {locs : List Loc} {cells slots : Nat} {Q : State → Prop}
variable {pc : Nat} {ls : Array Slot} {A0 : Nat → Prop} {H0 : Heap}
/-- behind a pure call: the answer is on the stack, every old cell stays -/
theorem ff_goon {a : Array Value} {v : Int32} {rest st0 : List Value} (hr : va_Run p l e R s m args below meth c H locs cells slots 0 0 (F0 m pc ls st0) rest (ff_Q v a) ff_F) (hS : va_S A0 H0 H locs)
    (kk : ∀ (H1 : Heap) (locs1 : List Loc), (∀ q : Nat, q < H.size → H1[q]? = H[q]?) → va_S A0 H0 H1 locs1 → W p l e R s m args below meth c H1 locs1 cells slots Q (F0 m (pc + 3) ls (.int v :: rest))) :
    W p l e R s m args below meth c H locs cells slots Q (F0 m pc ls st0) := by
  refine va_calli hr hS (fun _ _ h => h.elim) (fun _ h => h.elim) (fun r u t H1 locs1 ht hvm hp hB hz hk hS1 => ?_)
  have e9 : r = v := hp
  rw [e9]
  exact kk H1 locs1 (fun q hq => hk q hq (fun h => h)) hS1
end FFC
end
section
/-! THE WALKS OF GF -/
set_option maxHeartbeats 4000000 in
set_option maxRecDepth 100000 in
/-- GF.reduce -/
theorem metX2_reduce (l : Launch) (a : Int32) : Met l yX2_reduce wsX2_reduce ({ frames := 0, cells := 0, slots := 0, locals := 0 }) (ff_P [.int a]) (ff_Q (gf_red a)) 0 0 ff_F := by
  refine Met.ofW (cc := cX2_reduce) (maxL := 3) (ret := (some .int)) (by decide) rfl ?_
  intro p e s m args below meth c s₁ B hml hv
  obtain ⟨rfl, -⟩ := hv
  have hx := B.exec
  have hb := B.bytes
  have hr := B.returns
  have hts := atoms_spec (ws := wsX2_reduce) B.pre
  have hts : ∀ w ∈ lw_all, w.before _ s = true := fun w h => hts w (List.mem_cons_of_mem _ h)
  have hown : s.vm.findClass RX2 = some m.cls := findClass_of_methodNamed B.named
  have hlocks := B.notSynchronized
  have hS : va_S ff_F s.heap s.heap [] := va_S.rf
  have hl := lv_entry ([.int a]) (n := 3) (Nat.le_of_ble_eq_true rfl)
  rw [lg_entry_eq]
  generalize (lg_sl ([.int a]) ++ List.replicate (3 - (lg_sl ([.int a])).length) Slot.unset).toArray = ls at hl ⊢
  have hl : lv_has ls 3 [(0, .int a)] := hl
  have lp : ∀ (k : Nat) (xx : Int32) (ls : Array Slot), k ≤ 7 → gf_rl k xx &&& 255 = gf_red a → lv_has ls 3 [(0, .int xx), (1, .int (nI (k + 7)))] → W p l e (headSpec wsX2_reduce ({ frames := 0, cells := 0, slots := 0, locals := 0 })).room s m ([.int a] : List Value).toArray below meth c s.heap [] 0 0 (MQ below (ff_Q (gf_red a)) ([.int a] : List Value).toArray s 0 0 ff_F) (F0 m 3 ls []) := by
    intro k
    induction k with
    | zero =>
      intro xx ls hk hv hl
      refine lv_iload_n hx hb dX2_reduce_3 rfl (lv_at hl 1 rfl) ?_
      refine lv_bipush (v := 8) hx hb dX2_reduce_4 (by decide) ?_
      refine lv_icmp_lt (tgt := 35) hx hb dX2_reduce_6 (by decide) (fun c_1 => ?_) (fun c_1 => ?_)
      · refine lv_iload_n hx hb dX2_reduce_35 rfl (lv_at hl 0 rfl) ?_
        refine lv_sipush (v := 255) hx hb dX2_reduce_36 (by decide) ?_
        refine lv_iand hx hb dX2_reduce_39 ?_
        exact W.iret (v := (xx &&& 255)) hx hb hr (fun t ht hW => ⟨⟨(xx &&& 255), (), rfl, hv, trivial⟩, hS.F ht⟩) hS.2.2 dX2_reduce_40
      · exact absurd (by decide) c_1
    | succ k ih =>
      intro xx ls hk hv hl
      refine lv_iload_n hx hb dX2_reduce_3 rfl (lv_at hl 1 rfl) ?_
      refine lv_bipush (v := 8) hx hb dX2_reduce_4 (by decide) ?_
      refine lv_icmp_lt (tgt := 35) hx hb dX2_reduce_6 (by decide) (fun c_1 => ?_) (fun c_1 => ?_)
      · exact absurd c_1 (nI_nlt (a := k + 1 + 7) (b := 8) (by omega) (by omega))
      · refine lv_iload_n hx hb dX2_reduce_9 rfl (lv_at hl 0 rfl) ?_
        refine lv_iload_n hx hb dX2_reduce_10 rfl (lv_at hl 1 rfl) ?_
        refine lv_iushr (v := (ff_us xx (nI (k + 1 + 7)))) hx hb dX2_reduce_11 rfl ?_
        refine lv_iconst (v := 1) hx hb dX2_reduce_12 (by decide) ?_
        refine lv_iand hx hb dX2_reduce_13 ?_
        refine lv_ineg hx hb dX2_reduce_14 ?_
        refine lv_topi (fun y_1 ey_1 => ?_)
        refine lv_istore_n (lv' := [(2, .int y_1), (0, .int xx), (1, .int (nI (k + 1 + 7)))]) hx hb dX2_reduce_15 rfl hl (by decide) rfl (fun ls hl => ?_)
        refine lv_iload_n hx hb dX2_reduce_16 rfl (lv_at hl 1 rfl) ?_
        refine lv_iload_n hx hb dX2_reduce_17 rfl (lv_at hl 0 rfl) ?_
        refine lv_sipush (v := 285) hx hb dX2_reduce_18 (by decide) ?_
        refine lv_iload_n hx hb dX2_reduce_21 rfl (lv_at hl 2 rfl) ?_
        refine lv_bipush (v := 8) hx hb dX2_reduce_22 (by decide) ?_
        refine lv_isub hx hb dX2_reduce_24 ?_
        refine lv_ishl hx hb dX2_reduce_25 ?_
        refine lv_iand hx hb dX2_reduce_26 ?_
        refine lv_ixor hx hb dX2_reduce_27 ?_
        refine lv_topi (fun x_2 ex_2 => ?_)
        refine lv_istore_n (lv' := [(0, .int x_2), (2, .int y_1), (1, .int (nI (k + 1 + 7)))]) hx hb dX2_reduce_28 rfl hl (by decide) rfl (fun ls hl => ?_)
        refine lv_iinc (v := (nI (k + 7))) (lv' := [(1, .int (nI (k + 7))), (0, .int x_2), (2, .int y_1)]) hx hb dX2_reduce_29 hl (k := 2) rfl (by rw [show Int32.ofInt (-1) = (-1 : Int32) by decide]; exact pk_m1 (k + 7)) (by decide) rfl (fun ls hl => ?_)
        refine lv_goto (tgt := 3) hx hb dX2_reduce_32 (by decide) ?_
        exact ih x_2 ls (by omega) (by rw [ex_2, ey_1]; exact hv) (lv_sub hl [1, 0] rfl)
  refine lv_bipush (v := 14) hx hb dX2_reduce_0 (by decide) ?_
  refine lv_istore_n (lv' := [(1, .int 14), (0, .int a)]) hx hb dX2_reduce_2 rfl hl (by decide) rfl (fun ls hl => ?_)
  exact lp 7 a ls (by omega) rfl (lv_sub hl [1, 0] rfl)
set_option maxHeartbeats 4000000 in
set_option maxRecDepth 100000 in
/-- GF.mul -/
theorem metX2_mul (l : Launch) (a b : Int32) : Met l yX2_mul wsX2_mul ({ frames := 1, cells := 0, slots := 0, locals := 22 }) (ff_P [.int a, .int b]) (ff_Q (gf_mul a b)) 0 0 ff_F := by
  refine Met.ofW (cc := cX2_mul) (maxL := 5) (ret := (some .int)) (by decide) rfl ?_
  intro p e s m args below meth c s₁ B hml hv
  obtain ⟨rfl, -⟩ := hv
  have hx := B.exec
  have hb := B.bytes
  have hr := B.returns
  have hts := atoms_spec (ws := wsX2_mul) B.pre
  have hts : ∀ w ∈ lw_all, w.before _ s = true := fun w h => hts w (List.mem_cons_of_mem _ h)
  have hown : s.vm.findClass RX2 = some m.cls := findClass_of_methodNamed B.named
  have hlocks := B.notSynchronized
  have hS : va_S ff_F s.heap s.heap [] := va_S.rf
  have hl := lv_entry ([.int a, .int b]) (n := 5) (Nat.le_of_ble_eq_true rfl)
  rw [lg_entry_eq]
  generalize (lg_sl ([.int a, .int b]) ++ List.replicate (5 - (lg_sl ([.int a, .int b])).length) Slot.unset).toArray = ls at hl ⊢
  have hl : lv_has ls 5 [(0, .int a), (1, .int b)] := hl
  have lp : ∀ (n : Nat) (pp : Int32) (ls : Array Slot), n ≤ 8 → gf_red (gf_ml a b n pp) = gf_mul a b → lv_has ls 5 [(0, .int a), (1, .int b), (2, .int pp), (3, .int (nI (8 - n)))] → W p l e (headSpec wsX2_mul ({ frames := 1, cells := 0, slots := 0, locals := 22 })).room s m ([.int a, .int b] : List Value).toArray below meth c s.heap [] 0 0 (MQ below (ff_Q (gf_mul a b)) ([.int a, .int b] : List Value).toArray s 0 0 ff_F) (F0 m 4 ls []) := by
    intro n
    induction n with
    | zero =>
      intro pp ls hn hv hl
      refine lv_iload_n hx hb dX2_mul_4 rfl (lv_at hl 3 rfl) ?_
      refine lv_bipush (v := 8) hx hb dX2_mul_5 (by decide) ?_
      refine lv_icmp_ge (tgt := 33) hx hb dX2_mul_7 (by decide) (fun c_1 => ?_) (fun c_1 => ?_)
      · refine lv_iload_n hx hb dX2_mul_33 rfl (lv_at hl 2 rfl) ?_
        refine ff_goon (v := (gf_red pp)) (rest := []) (va_runS (As := [.int pp]) ⟨hx, hb, hml, hown, hts⟩ (metX2_reduce l pp) (va_cwS 1 hts (lw_S q23 q24 q3 q25) rfl rfl rfl (by decide +kernel) ⟨Nat.le_of_ble_eq_true rfl, Nat.le_of_ble_eq_true rfl⟩) ⟨ff_blind _, fun U hU hW => ⟨rfl, trivial⟩⟩ rfl rfl hl.1 rfl (lv_room (Nat.le_of_ble_eq_true rfl)) dX2_mul_34 ⟨Nat.le_of_ble_eq_true rfl, Nat.le_of_ble_eq_true rfl⟩) hS (fun H locs hk hS => ?_)
        clear hk
        exact W.iret (v := (gf_red pp)) hx hb hr (fun t ht hW => ⟨⟨(gf_red pp), (), rfl, hv, trivial⟩, hS.F ht⟩) hS.2.2 dX2_mul_37
      · exact absurd (by decide) c_1
    | succ n ih =>
      intro pp ls hn hv hl
      rw [show 8 - (n + 1) = 7 - n by omega] at hl
      refine lv_iload_n hx hb dX2_mul_4 rfl (lv_at hl 3 rfl) ?_
      refine lv_bipush (v := 8) hx hb dX2_mul_5 (by decide) ?_
      refine lv_icmp_ge (tgt := 33) hx hb dX2_mul_7 (by decide) (fun c_1 => ?_) (fun c_1 => ?_)
      · exact absurd c_1 (nI_ge (a := 7 - n) (b := 8) (by omega) (by omega))
      · refine lv_iload_n hx hb dX2_mul_10 rfl (lv_at hl 1 rfl) ?_
        refine lv_iload_n hx hb dX2_mul_11 rfl (lv_at hl 3 rfl) ?_
        refine lv_iushr (v := (ff_us b (nI (7 - n)))) hx hb dX2_mul_12 rfl ?_
        refine lv_iconst (v := 1) hx hb dX2_mul_13 (by decide) ?_
        refine lv_iand hx hb dX2_mul_14 ?_
        refine lv_ineg hx hb dX2_mul_15 ?_
        refine lv_topi (fun y_1 ey_1 => ?_)
        refine lv_istore (lv' := [(4, .int y_1), (0, .int a), (1, .int b), (2, .int pp), (3, .int (nI (7 - n)))]) hx hb dX2_mul_16 hl (by decide) rfl (fun ls hl => ?_)
        refine lv_iload_n hx hb dX2_mul_18 rfl (lv_at hl 3 rfl) ?_
        refine lv_iload hx hb dX2_mul_19 (lv_at hl 0 rfl) ?_
        refine lv_iload_n hx hb dX2_mul_21 rfl (lv_at hl 1 rfl) ?_
        refine lv_iload_n hx hb dX2_mul_22 rfl (lv_at hl 4 rfl) ?_
        refine lv_ishl hx hb dX2_mul_23 ?_
        refine lv_iand hx hb dX2_mul_24 ?_
        refine lv_ixor hx hb dX2_mul_25 ?_
        refine lv_topi (fun x_2 ex_2 => ?_)
        refine lv_istore_n (lv' := [(2, .int x_2), (4, .int y_1), (0, .int a), (1, .int b), (3, .int (nI (7 - n)))]) hx hb dX2_mul_26 rfl hl (by decide) rfl (fun ls hl => ?_)
        refine lv_iinc (v := (nI (8 - n))) (lv' := [(3, .int (nI (8 - n))), (2, .int x_2), (4, .int y_1), (0, .int a), (1, .int b)]) hx hb dX2_mul_27 hl (k := 4) rfl (by rw [show Int32.ofInt 1 = (1 : Int32) by decide, nI_1, show 7 - n + 1 = 8 - n by omega]) (by decide) rfl (fun ls hl => ?_)
        refine lv_goto (tgt := 4) hx hb dX2_mul_30 (by decide) ?_
        exact ih x_2 ls (by omega) (by rw [ex_2, ey_1]; exact hv) (lv_sub hl [3, 4, 1, 0] rfl)
  refine lv_iconst (v := 0) hx hb dX2_mul_0 (by decide) ?_
  refine lv_istore_n (lv' := [(2, .int 0), (0, .int a), (1, .int b)]) hx hb dX2_mul_1 rfl hl (by decide) rfl (fun ls hl => ?_)
  refine lv_iconst (v := 0) hx hb dX2_mul_2 (by decide) ?_
  refine lv_istore_n (lv' := [(3, .int 0), (2, .int 0), (0, .int a), (1, .int b)]) hx hb dX2_mul_3 rfl hl (by decide) rfl (fun ls hl => ?_)
  exact lp 8 0 ls (by omega) rfl (lv_sub hl [2, 3, 1, 0] rfl)
set_option maxHeartbeats 4000000 in
set_option maxRecDepth 100000 in
/-- GF.mul3 -/
theorem metX2_mul3 (l : Launch) (a b c0 : Int32) : Met l yX2_mul3 wsX2_mul3 ({ frames := 2, cells := 0, slots := 0, locals := 46 }) (ff_P [.int a, .int b, .int c0]) (ff_Q (gf_mul (gf_mul a b) c0)) 0 0 ff_F := by
  refine Met.ofW (cc := cX2_mul3) (maxL := 3) (ret := (some .int)) (by decide) rfl ?_
  intro p e s m args below meth c s₁ B hml hv
  obtain ⟨rfl, -⟩ := hv
  have hx := B.exec
  have hb := B.bytes
  have hr := B.returns
  have hts := atoms_spec (ws := wsX2_mul3) B.pre
  have hts : ∀ w ∈ lw_all, w.before _ s = true := fun w h => hts w (List.mem_cons_of_mem _ h)
  have hown : s.vm.findClass RX2 = some m.cls := findClass_of_methodNamed B.named
  have hlocks := B.notSynchronized
  have hS : va_S ff_F s.heap s.heap [] := va_S.rf
  have hl := lv_entry ([.int a, .int b, .int c0]) (n := 3) (Nat.le_of_ble_eq_true rfl)
  rw [lg_entry_eq]
  generalize (lg_sl ([.int a, .int b, .int c0]) ++ List.replicate (3 - (lg_sl ([.int a, .int b, .int c0])).length) Slot.unset).toArray = ls at hl ⊢
  have hl : lv_has ls 3 [(0, .int a), (1, .int b), (2, .int c0)] := hl
  refine lv_iload_n hx hb dX2_mul3_0 rfl (lv_at hl 0 rfl) ?_
  refine lv_iload_n hx hb dX2_mul3_1 rfl (lv_at hl 1 rfl) ?_
  refine ff_goon (v := (gf_mul a b)) (rest := []) (va_runS (As := [.int a, .int b]) ⟨hx, hb, hml, hown, hts⟩ (metX2_mul l a b) (va_cwS 2 hts (lw_S q33 q21 q3 q22) rfl rfl rfl (by decide +kernel) ⟨Nat.le_of_ble_eq_true rfl, Nat.le_of_ble_eq_true rfl⟩) ⟨ff_blind _, fun U hU hW => ⟨rfl, trivial⟩⟩ rfl rfl hl.1 rfl (lv_room (Nat.le_of_ble_eq_true rfl)) dX2_mul3_2 ⟨Nat.le_of_ble_eq_true rfl, Nat.le_of_ble_eq_true rfl⟩) hS (fun H locs hk hS => ?_)
  clear hk
  refine lv_iload_n hx hb dX2_mul3_5 rfl (lv_at hl 2 rfl) ?_
  refine ff_goon (v := (gf_mul (gf_mul a b) c0)) (rest := []) (va_runS (As := [.int (gf_mul a b), .int c0]) ⟨hx, hb, hml, hown, hts⟩ (metX2_mul l (gf_mul a b) c0) (va_cwS 2 hts (lw_S q33 q21 q3 q22) rfl rfl rfl (by decide +kernel) ⟨Nat.le_of_ble_eq_true rfl, Nat.le_of_ble_eq_true rfl⟩) ⟨ff_blind _, fun U hU hW => ⟨rfl, trivial⟩⟩ rfl rfl hl.1 rfl (lv_room (Nat.le_of_ble_eq_true rfl)) dX2_mul3_6 ⟨Nat.le_of_ble_eq_true rfl, Nat.le_of_ble_eq_true rfl⟩) hS (fun H locs hk hS => ?_)
  clear hk
  exact W.iret (v := (gf_mul (gf_mul a b) c0)) hx hb hr (fun t ht hW => ⟨⟨(gf_mul (gf_mul a b) c0), (), rfl, rfl, trivial⟩, hS.F ht⟩) hS.2.2 dX2_mul3_9
set_option maxHeartbeats 4000000 in
set_option maxRecDepth 100000 in
/-- GF.sqr -/
theorem metX2_sqr (l : Launch) (a : Int32) : Met l yX2_sqr wsX2_sqr ({ frames := 1, cells := 0, slots := 0, locals := 22 }) (ff_P [.int a]) (ff_Q (gf_sqr a)) 0 0 ff_F := by
  refine Met.ofW (cc := cX2_sqr) (maxL := 2) (ret := (some .int)) (by decide) rfl ?_
  intro p e s m args below meth c s₁ B hml hv
  obtain ⟨rfl, -⟩ := hv
  have hx := B.exec
  have hb := B.bytes
  have hr := B.returns
  have hts := atoms_spec (ws := wsX2_sqr) B.pre
  have hts : ∀ w ∈ lw_all, w.before _ s = true := fun w h => hts w (List.mem_cons_of_mem _ h)
  have hown : s.vm.findClass RX2 = some m.cls := findClass_of_methodNamed B.named
  have hlocks := B.notSynchronized
  have hS : va_S ff_F s.heap s.heap [] := va_S.rf
  have hl := lv_entry ([.int a]) (n := 2) (Nat.le_of_ble_eq_true rfl)
  rw [lg_entry_eq]
  generalize (lg_sl ([.int a]) ++ List.replicate (2 - (lg_sl ([.int a])).length) Slot.unset).toArray = ls at hl ⊢
  have hl : lv_has ls 2 [(0, .int a)] := hl
  refine lv_iload_n hx hb dX2_sqr_0 rfl (lv_at hl 0 rfl) ?_
  refine lv_istore_n (lv' := [(1, .int a), (0, .int a)]) hx hb dX2_sqr_1 rfl hl (by decide) rfl (fun ls hl => ?_)
  refine lv_iload_n hx hb dX2_sqr_2 rfl (lv_at hl 0 rfl) ?_
  refine lv_iload_n hx hb dX2_sqr_3 rfl (lv_at hl 0 rfl) ?_
  refine lv_iconst (v := 4) hx hb dX2_sqr_4 (by decide) ?_
  refine lv_ishl hx hb dX2_sqr_5 ?_
  refine lv_ior hx hb dX2_sqr_6 ?_
  refine lv_sipush (v := 3855) hx hb dX2_sqr_7 (by decide) ?_
  refine lv_iand hx hb dX2_sqr_10 ?_
  refine lv_topi (fun y_1 ey_1 => ?_)
  refine lv_istore_n (lv' := [(1, .int y_1), (0, .int a)]) hx hb dX2_sqr_11 rfl hl (by decide) rfl (fun ls hl => ?_)
  refine lv_iload_n hx hb dX2_sqr_12 rfl (lv_at hl 0 rfl) ?_
  refine lv_iload_n hx hb dX2_sqr_13 rfl (lv_at hl 0 rfl) ?_
  refine lv_iconst (v := 2) hx hb dX2_sqr_14 (by decide) ?_
  refine lv_ishl hx hb dX2_sqr_15 ?_
  refine lv_ior hx hb dX2_sqr_16 ?_
  refine lv_sipush (v := 13107) hx hb dX2_sqr_17 (by decide) ?_
  refine lv_iand hx hb dX2_sqr_20 ?_
  refine lv_topi (fun y_2 ey_2 => ?_)
  refine lv_istore_n (lv' := [(1, .int y_2), (0, .int a)]) hx hb dX2_sqr_21 rfl hl (by decide) rfl (fun ls hl => ?_)
  refine lv_iload_n hx hb dX2_sqr_22 rfl (lv_at hl 0 rfl) ?_
  refine lv_iload_n hx hb dX2_sqr_23 rfl (lv_at hl 0 rfl) ?_
  refine lv_iconst (v := 1) hx hb dX2_sqr_24 (by decide) ?_
  refine lv_ishl hx hb dX2_sqr_25 ?_
  refine lv_ior hx hb dX2_sqr_26 ?_
  refine lv_sipush (v := 21845) hx hb dX2_sqr_27 (by decide) ?_
  refine lv_iand hx hb dX2_sqr_30 ?_
  refine lv_topi (fun y_3 ey_3 => ?_)
  refine lv_istore_n (lv' := [(1, .int y_3), (0, .int a)]) hx hb dX2_sqr_31 rfl hl (by decide) rfl (fun ls hl => ?_)
  refine lv_iload_n hx hb dX2_sqr_32 rfl (lv_at hl 0 rfl) ?_
  refine ff_goon (v := (gf_red y_3)) (rest := []) (va_runS (As := [.int y_3]) ⟨hx, hb, hml, hown, hts⟩ (metX2_reduce l y_3) (va_cwS 1 hts (lw_S q23 q24 q3 q25) rfl rfl rfl (by decide +kernel) ⟨Nat.le_of_ble_eq_true rfl, Nat.le_of_ble_eq_true rfl⟩) ⟨ff_blind _, fun U hU hW => ⟨rfl, trivial⟩⟩ rfl rfl hl.1 rfl (lv_room (Nat.le_of_ble_eq_true rfl)) dX2_sqr_33 ⟨Nat.le_of_ble_eq_true rfl, Nat.le_of_ble_eq_true rfl⟩) hS (fun H locs hk hS => ?_)
  clear hk
  exact W.iret (v := (gf_red y_3)) hx hb hr (fun t ht hW => ⟨⟨(gf_red y_3), (), rfl, (by rw [ey_3, ey_2, ey_1]; rfl), trivial⟩, hS.F ht⟩) hS.2.2 dX2_sqr_36
set_option maxHeartbeats 4000000 in
set_option maxRecDepth 100000 in
/-- GF.inv -/
theorem metX2_inv (l : Launch) (a : Int32) : Met l yX2_inv wsX2_inv ({ frames := 2, cells := 0, slots := 0, locals := 46 }) (ff_P [.int a]) (ff_Q (gf_inv a)) 0 0 ff_F := by
  refine Met.ofW (cc := cX2_inv) (maxL := 13) (ret := (some .int)) (by decide) rfl ?_
  intro p e s m args below meth c s₁ B hml hv
  obtain ⟨rfl, -⟩ := hv
  have hx := B.exec
  have hb := B.bytes
  have hr := B.returns
  have hts := atoms_spec (ws := wsX2_inv) B.pre
  have hts : ∀ w ∈ lw_all, w.before _ s = true := fun w h => hts w (List.mem_cons_of_mem _ h)
  have hown : s.vm.findClass RX2 = some m.cls := findClass_of_methodNamed B.named
  have hlocks := B.notSynchronized
  have hS : va_S ff_F s.heap s.heap [] := va_S.rf
  have hl := lv_entry ([.int a]) (n := 13) (Nat.le_of_ble_eq_true rfl)
  rw [lg_entry_eq]
  generalize (lg_sl ([.int a]) ++ List.replicate (13 - (lg_sl ([.int a])).length) Slot.unset).toArray = ls at hl ⊢
  have hl : lv_has ls 13 [(0, .int a)] := hl
  refine lv_iload_n hx hb dX2_inv_0 rfl (lv_at hl 0 rfl) ?_
  refine ff_goon (v := (gf_sqr a)) (rest := []) (va_runS (As := [.int a]) ⟨hx, hb, hml, hown, hts⟩ (metX2_sqr l a) (va_cwS 1 hts (lw_S q48 q39 q3 q40) rfl rfl rfl (by decide +kernel) ⟨Nat.le_of_ble_eq_true rfl, Nat.le_of_ble_eq_true rfl⟩) ⟨ff_blind _, fun U hU hW => ⟨rfl, trivial⟩⟩ rfl rfl hl.1 rfl (lv_room (Nat.le_of_ble_eq_true rfl)) dX2_inv_1 ⟨Nat.le_of_ble_eq_true rfl, Nat.le_of_ble_eq_true rfl⟩) hS (fun H locs hk hS => ?_)
  clear hk
  refine lv_topi (fun y_1 ey_1 => ?_)
  refine lv_istore_n (lv' := [(1, .int y_1), (0, .int a)]) hx hb dX2_inv_4 rfl hl (by decide) rfl (fun ls hl => ?_)
  refine lv_iload_n hx hb dX2_inv_5 rfl (lv_at hl 0 rfl) ?_
  refine lv_iload_n hx hb dX2_inv_6 rfl (lv_at hl 1 rfl) ?_
  refine ff_goon (v := (gf_mul y_1 a)) (rest := []) (va_runS (As := [.int y_1, .int a]) ⟨hx, hb, hml, hown, hts⟩ (metX2_mul l y_1 a) (va_cwS 2 hts (lw_S q33 q21 q3 q22) rfl rfl rfl (by decide +kernel) ⟨Nat.le_of_ble_eq_true rfl, Nat.le_of_ble_eq_true rfl⟩) ⟨ff_blind _, fun U hU hW => ⟨rfl, trivial⟩⟩ rfl rfl hl.1 rfl (lv_room (Nat.le_of_ble_eq_true rfl)) dX2_inv_7 ⟨Nat.le_of_ble_eq_true rfl, Nat.le_of_ble_eq_true rfl⟩) hS (fun H locs hk hS => ?_)
  clear hk
  refine lv_topi (fun y_2 ey_2 => ?_)
  refine lv_istore_n (lv' := [(2, .int y_2), (1, .int y_1), (0, .int a)]) hx hb dX2_inv_10 rfl hl (by decide) rfl (fun ls hl => ?_)
  refine lv_iload_n hx hb dX2_inv_11 rfl (lv_at hl 0 rfl) ?_
  refine ff_goon (v := (gf_sqr y_2)) (rest := []) (va_runS (As := [.int y_2]) ⟨hx, hb, hml, hown, hts⟩ (metX2_sqr l y_2) (va_cwS 1 hts (lw_S q48 q39 q3 q40) rfl rfl rfl (by decide +kernel) ⟨Nat.le_of_ble_eq_true rfl, Nat.le_of_ble_eq_true rfl⟩) ⟨ff_blind _, fun U hU hW => ⟨rfl, trivial⟩⟩ rfl rfl hl.1 rfl (lv_room (Nat.le_of_ble_eq_true rfl)) dX2_inv_12 ⟨Nat.le_of_ble_eq_true rfl, Nat.le_of_ble_eq_true rfl⟩) hS (fun H locs hk hS => ?_)
  clear hk
  refine lv_topi (fun y_3 ey_3 => ?_)
  refine lv_istore_n (lv' := [(3, .int y_3), (2, .int y_2), (1, .int y_1), (0, .int a)]) hx hb dX2_inv_15 rfl hl (by decide) rfl (fun ls hl => ?_)
  refine lv_iload_n hx hb dX2_inv_16 rfl (lv_at hl 0 rfl) ?_
  refine lv_iload_n hx hb dX2_inv_17 rfl (lv_at hl 3 rfl) ?_
  refine ff_goon (v := (gf_mul y_3 a)) (rest := []) (va_runS (As := [.int y_3, .int a]) ⟨hx, hb, hml, hown, hts⟩ (metX2_mul l y_3 a) (va_cwS 2 hts (lw_S q33 q21 q3 q22) rfl rfl rfl (by decide +kernel) ⟨Nat.le_of_ble_eq_true rfl, Nat.le_of_ble_eq_true rfl⟩) ⟨ff_blind _, fun U hU hW => ⟨rfl, trivial⟩⟩ rfl rfl hl.1 rfl (lv_room (Nat.le_of_ble_eq_true rfl)) dX2_inv_18 ⟨Nat.le_of_ble_eq_true rfl, Nat.le_of_ble_eq_true rfl⟩) hS (fun H locs hk hS => ?_)
  clear hk
  refine lv_topi (fun y_4 ey_4 => ?_)
  refine lv_istore (lv' := [(4, .int y_4), (3, .int y_3), (2, .int y_2), (1, .int y_1), (0, .int a)]) hx hb dX2_inv_21 hl (by decide) rfl (fun ls hl => ?_)
  refine lv_iload hx hb dX2_inv_23 (lv_at hl 0 rfl) ?_
  refine ff_goon (v := (gf_sqr y_4)) (rest := []) (va_runS (As := [.int y_4]) ⟨hx, hb, hml, hown, hts⟩ (metX2_sqr l y_4) (va_cwS 1 hts (lw_S q48 q39 q3 q40) rfl rfl rfl (by decide +kernel) ⟨Nat.le_of_ble_eq_true rfl, Nat.le_of_ble_eq_true rfl⟩) ⟨ff_blind _, fun U hU hW => ⟨rfl, trivial⟩⟩ rfl rfl hl.1 rfl (lv_room (Nat.le_of_ble_eq_true rfl)) dX2_inv_25 ⟨Nat.le_of_ble_eq_true rfl, Nat.le_of_ble_eq_true rfl⟩) hS (fun H locs hk hS => ?_)
  clear hk
  refine lv_topi (fun y_5 ey_5 => ?_)
  refine lv_istore (lv' := [(5, .int y_5), (4, .int y_4), (3, .int y_3), (2, .int y_2), (1, .int y_1), (0, .int a)]) hx hb dX2_inv_28 hl (by decide) rfl (fun ls hl => ?_)
  refine lv_iload hx hb dX2_inv_30 (lv_at hl 0 rfl) ?_
  refine lv_iload_n hx hb dX2_inv_32 rfl (lv_at hl 5 rfl) ?_
  refine ff_goon (v := (gf_mul y_5 a)) (rest := []) (va_runS (As := [.int y_5, .int a]) ⟨hx, hb, hml, hown, hts⟩ (metX2_mul l y_5 a) (va_cwS 2 hts (lw_S q33 q21 q3 q22) rfl rfl rfl (by decide +kernel) ⟨Nat.le_of_ble_eq_true rfl, Nat.le_of_ble_eq_true rfl⟩) ⟨ff_blind _, fun U hU hW => ⟨rfl, trivial⟩⟩ rfl rfl hl.1 rfl (lv_room (Nat.le_of_ble_eq_true rfl)) dX2_inv_33 ⟨Nat.le_of_ble_eq_true rfl, Nat.le_of_ble_eq_true rfl⟩) hS (fun H locs hk hS => ?_)
  clear hk
  refine lv_topi (fun y_6 ey_6 => ?_)
  refine lv_istore (lv' := [(6, .int y_6), (5, .int y_5), (4, .int y_4), (3, .int y_3), (2, .int y_2), (1, .int y_1), (0, .int a)]) hx hb dX2_inv_36 hl (by decide) rfl (fun ls hl => ?_)
  refine lv_iload hx hb dX2_inv_38 (lv_at hl 0 rfl) ?_
  refine ff_goon (v := (gf_sqr y_6)) (rest := []) (va_runS (As := [.int y_6]) ⟨hx, hb, hml, hown, hts⟩ (metX2_sqr l y_6) (va_cwS 1 hts (lw_S q48 q39 q3 q40) rfl rfl rfl (by decide +kernel) ⟨Nat.le_of_ble_eq_true rfl, Nat.le_of_ble_eq_true rfl⟩) ⟨ff_blind _, fun U hU hW => ⟨rfl, trivial⟩⟩ rfl rfl hl.1 rfl (lv_room (Nat.le_of_ble_eq_true rfl)) dX2_inv_40 ⟨Nat.le_of_ble_eq_true rfl, Nat.le_of_ble_eq_true rfl⟩) hS (fun H locs hk hS => ?_)
  clear hk
  refine lv_topi (fun y_7 ey_7 => ?_)
  refine lv_istore (lv' := [(7, .int y_7), (6, .int y_6), (5, .int y_5), (4, .int y_4), (3, .int y_3), (2, .int y_2), (1, .int y_1), (0, .int a)]) hx hb dX2_inv_43 hl (by decide) rfl (fun ls hl => ?_)
  refine lv_iload hx hb dX2_inv_45 (lv_at hl 0 rfl) ?_
  refine lv_iload_n hx hb dX2_inv_47 rfl (lv_at hl 7 rfl) ?_
  refine ff_goon (v := (gf_mul y_7 a)) (rest := []) (va_runS (As := [.int y_7, .int a]) ⟨hx, hb, hml, hown, hts⟩ (metX2_mul l y_7 a) (va_cwS 2 hts (lw_S q33 q21 q3 q22) rfl rfl rfl (by decide +kernel) ⟨Nat.le_of_ble_eq_true rfl, Nat.le_of_ble_eq_true rfl⟩) ⟨ff_blind _, fun U hU hW => ⟨rfl, trivial⟩⟩ rfl rfl hl.1 rfl (lv_room (Nat.le_of_ble_eq_true rfl)) dX2_inv_48 ⟨Nat.le_of_ble_eq_true rfl, Nat.le_of_ble_eq_true rfl⟩) hS (fun H locs hk hS => ?_)
  clear hk
  refine lv_topi (fun y_8 ey_8 => ?_)
  refine lv_istore (lv' := [(8, .int y_8), (7, .int y_7), (6, .int y_6), (5, .int y_5), (4, .int y_4), (3, .int y_3), (2, .int y_2), (1, .int y_1), (0, .int a)]) hx hb dX2_inv_51 hl (by decide) rfl (fun ls hl => ?_)
  refine lv_iload hx hb dX2_inv_53 (lv_at hl 0 rfl) ?_
  refine ff_goon (v := (gf_sqr y_8)) (rest := []) (va_runS (As := [.int y_8]) ⟨hx, hb, hml, hown, hts⟩ (metX2_sqr l y_8) (va_cwS 1 hts (lw_S q48 q39 q3 q40) rfl rfl rfl (by decide +kernel) ⟨Nat.le_of_ble_eq_true rfl, Nat.le_of_ble_eq_true rfl⟩) ⟨ff_blind _, fun U hU hW => ⟨rfl, trivial⟩⟩ rfl rfl hl.1 rfl (lv_room (Nat.le_of_ble_eq_true rfl)) dX2_inv_55 ⟨Nat.le_of_ble_eq_true rfl, Nat.le_of_ble_eq_true rfl⟩) hS (fun H locs hk hS => ?_)
  clear hk
  refine lv_topi (fun y_9 ey_9 => ?_)
  refine lv_istore (lv' := [(9, .int y_9), (8, .int y_8), (7, .int y_7), (6, .int y_6), (5, .int y_5), (4, .int y_4), (3, .int y_3), (2, .int y_2), (1, .int y_1), (0, .int a)]) hx hb dX2_inv_58 hl (by decide) rfl (fun ls hl => ?_)
  refine lv_iload hx hb dX2_inv_60 (lv_at hl 0 rfl) ?_
  refine lv_iload_n hx hb dX2_inv_62 rfl (lv_at hl 9 rfl) ?_
  refine ff_goon (v := (gf_mul y_9 a)) (rest := []) (va_runS (As := [.int y_9, .int a]) ⟨hx, hb, hml, hown, hts⟩ (metX2_mul l y_9 a) (va_cwS 2 hts (lw_S q33 q21 q3 q22) rfl rfl rfl (by decide +kernel) ⟨Nat.le_of_ble_eq_true rfl, Nat.le_of_ble_eq_true rfl⟩) ⟨ff_blind _, fun U hU hW => ⟨rfl, trivial⟩⟩ rfl rfl hl.1 rfl (lv_room (Nat.le_of_ble_eq_true rfl)) dX2_inv_63 ⟨Nat.le_of_ble_eq_true rfl, Nat.le_of_ble_eq_true rfl⟩) hS (fun H locs hk hS => ?_)
  clear hk
  refine lv_topi (fun y_10 ey_10 => ?_)
  refine lv_istore (lv' := [(10, .int y_10), (9, .int y_9), (8, .int y_8), (7, .int y_7), (6, .int y_6), (5, .int y_5), (4, .int y_4), (3, .int y_3), (2, .int y_2), (1, .int y_1), (0, .int a)]) hx hb dX2_inv_66 hl (by decide) rfl (fun ls hl => ?_)
  refine lv_iload hx hb dX2_inv_68 (lv_at hl 0 rfl) ?_
  refine ff_goon (v := (gf_sqr y_10)) (rest := []) (va_runS (As := [.int y_10]) ⟨hx, hb, hml, hown, hts⟩ (metX2_sqr l y_10) (va_cwS 1 hts (lw_S q48 q39 q3 q40) rfl rfl rfl (by decide +kernel) ⟨Nat.le_of_ble_eq_true rfl, Nat.le_of_ble_eq_true rfl⟩) ⟨ff_blind _, fun U hU hW => ⟨rfl, trivial⟩⟩ rfl rfl hl.1 rfl (lv_room (Nat.le_of_ble_eq_true rfl)) dX2_inv_70 ⟨Nat.le_of_ble_eq_true rfl, Nat.le_of_ble_eq_true rfl⟩) hS (fun H locs hk hS => ?_)
  clear hk
  refine lv_topi (fun y_11 ey_11 => ?_)
  refine lv_istore (lv' := [(11, .int y_11), (10, .int y_10), (9, .int y_9), (8, .int y_8), (7, .int y_7), (6, .int y_6), (5, .int y_5), (4, .int y_4), (3, .int y_3), (2, .int y_2), (1, .int y_1), (0, .int a)]) hx hb dX2_inv_73 hl (by decide) rfl (fun ls hl => ?_)
  refine lv_iload hx hb dX2_inv_75 (lv_at hl 0 rfl) ?_
  refine lv_iload_n hx hb dX2_inv_77 rfl (lv_at hl 11 rfl) ?_
  refine ff_goon (v := (gf_mul y_11 a)) (rest := []) (va_runS (As := [.int y_11, .int a]) ⟨hx, hb, hml, hown, hts⟩ (metX2_mul l y_11 a) (va_cwS 2 hts (lw_S q33 q21 q3 q22) rfl rfl rfl (by decide +kernel) ⟨Nat.le_of_ble_eq_true rfl, Nat.le_of_ble_eq_true rfl⟩) ⟨ff_blind _, fun U hU hW => ⟨rfl, trivial⟩⟩ rfl rfl hl.1 rfl (lv_room (Nat.le_of_ble_eq_true rfl)) dX2_inv_78 ⟨Nat.le_of_ble_eq_true rfl, Nat.le_of_ble_eq_true rfl⟩) hS (fun H locs hk hS => ?_)
  clear hk
  refine lv_topi (fun y_12 ey_12 => ?_)
  refine lv_istore (lv' := [(12, .int y_12), (11, .int y_11), (10, .int y_10), (9, .int y_9), (8, .int y_8), (7, .int y_7), (6, .int y_6), (5, .int y_5), (4, .int y_4), (3, .int y_3), (2, .int y_2), (1, .int y_1), (0, .int a)]) hx hb dX2_inv_81 hl (by decide) rfl (fun ls hl => ?_)
  refine lv_iload hx hb dX2_inv_83 (lv_at hl 0 rfl) ?_
  refine ff_goon (v := (gf_sqr y_12)) (rest := []) (va_runS (As := [.int y_12]) ⟨hx, hb, hml, hown, hts⟩ (metX2_sqr l y_12) (va_cwS 1 hts (lw_S q48 q39 q3 q40) rfl rfl rfl (by decide +kernel) ⟨Nat.le_of_ble_eq_true rfl, Nat.le_of_ble_eq_true rfl⟩) ⟨ff_blind _, fun U hU hW => ⟨rfl, trivial⟩⟩ rfl rfl hl.1 rfl (lv_room (Nat.le_of_ble_eq_true rfl)) dX2_inv_85 ⟨Nat.le_of_ble_eq_true rfl, Nat.le_of_ble_eq_true rfl⟩) hS (fun H locs hk hS => ?_)
  clear hk
  exact W.iret (v := (gf_sqr y_12)) hx hb hr (fun t ht hW => ⟨⟨(gf_sqr y_12), (), rfl, (by rw [ey_12, ey_11, ey_10, ey_9, ey_8, ey_7, ey_6, ey_5, ey_4, ey_3, ey_2, ey_1]; rfl), trivial⟩, hS.F ht⟩) hS.2.2 dX2_inv_88
set_option maxHeartbeats 4000000 in
set_option maxRecDepth 100000 in
/-- GF.div -/
theorem metX2_div (l : Launch) (a b : Int32) : Met l yX2_div wsX2_div ({ frames := 3, cells := 0, slots := 0, locals := 78 }) (ff_P [.int a, .int b]) (ff_Q (gf_mul a (gf_inv b))) 0 0 ff_F := by
  refine Met.ofW (cc := cX2_div) (maxL := 2) (ret := (some .int)) (by decide) rfl ?_
  intro p e s m args below meth c s₁ B hml hv
  obtain ⟨rfl, -⟩ := hv
  have hx := B.exec
  have hb := B.bytes
  have hr := B.returns
  have hts := atoms_spec (ws := wsX2_div) B.pre
  have hts : ∀ w ∈ lw_all, w.before _ s = true := fun w h => hts w (List.mem_cons_of_mem _ h)
  have hown : s.vm.findClass RX2 = some m.cls := findClass_of_methodNamed B.named
  have hlocks := B.notSynchronized
  have hS : va_S ff_F s.heap s.heap [] := va_S.rf
  have hl := lv_entry ([.int a, .int b]) (n := 2) (Nat.le_of_ble_eq_true rfl)
  rw [lg_entry_eq]
  generalize (lg_sl ([.int a, .int b]) ++ List.replicate (2 - (lg_sl ([.int a, .int b])).length) Slot.unset).toArray = ls at hl ⊢
  have hl : lv_has ls 2 [(0, .int a), (1, .int b)] := hl
  refine lv_iload_n hx hb dX2_div_0 rfl (lv_at hl 0 rfl) ?_
  refine lv_iload_n hx hb dX2_div_1 rfl (lv_at hl 1 rfl) ?_
  refine ff_goon (v := (gf_inv b)) (rest := [.int a]) (va_runS (As := [.int b]) ⟨hx, hb, hml, hown, hts⟩ (metX2_inv l b) (va_cwS 1 hts (lw_S q56 q46 q3 q47) rfl rfl rfl (by decide +kernel) ⟨Nat.le_of_ble_eq_true rfl, Nat.le_of_ble_eq_true rfl⟩) ⟨ff_blind _, fun U hU hW => ⟨rfl, trivial⟩⟩ rfl rfl hl.1 rfl (lv_room (Nat.le_of_ble_eq_true rfl)) dX2_div_2 ⟨Nat.le_of_ble_eq_true rfl, Nat.le_of_ble_eq_true rfl⟩) hS (fun H locs hk hS => ?_)
  clear hk
  refine ff_goon (v := (gf_mul a (gf_inv b))) (rest := []) (va_runS (As := [.int a, .int (gf_inv b)]) ⟨hx, hb, hml, hown, hts⟩ (metX2_mul l a (gf_inv b)) (va_cwS 2 hts (lw_S q33 q21 q3 q22) rfl rfl rfl (by decide +kernel) ⟨Nat.le_of_ble_eq_true rfl, Nat.le_of_ble_eq_true rfl⟩) ⟨ff_blind _, fun U hU hW => ⟨rfl, trivial⟩⟩ rfl rfl hl.1 rfl (lv_room (Nat.le_of_ble_eq_true rfl)) dX2_div_5 ⟨Nat.le_of_ble_eq_true rfl, Nat.le_of_ble_eq_true rfl⟩) hS (fun H locs hk hS => ?_)
  clear hk
  exact W.iret (v := (gf_mul a (gf_inv b))) hx hb hr (fun t ht hW => ⟨⟨(gf_mul a (gf_inv b)), (), rfl, rfl, trivial⟩, hS.F ht⟩) hS.2.2 dX2_div_8
end
section
/-! THE WALKS OF THE REFERENCE: what needs no object -/
set_option maxHeartbeats 4000000 in
set_option maxRecDepth 100000 in
/-- the product -/
theorem metX1_product (l : Launch) (a b : Int32) : Met l yX1_product wsX1_product ({ frames := 0, cells := 0, slots := 0, locals := 0 }) (ff_P [.int a, .int b]) (ff_Q (mp_prod a b)) 0 0 ff_F := by
  refine Met.ofW (cc := cX1_product) (maxL := 4) (ret := (some .int)) (by decide) rfl ?_
  intro p e s m args below meth c s₁ B hml hv
  obtain ⟨rfl, -⟩ := hv
  have hx := B.exec
  have hb := B.bytes
  have hr := B.returns
  have hts := atoms_spec (ws := wsX1_product) B.pre
  have hts : ∀ w ∈ lw_all, w.before _ s = true := fun w h => hts w (List.mem_cons_of_mem _ h)
  have hown : s.vm.findClass RX1 = some m.cls := findClass_of_methodNamed B.named
  have hlocks := B.notSynchronized
  have hS : va_S ff_F s.heap s.heap [] := va_S.rf
  have hl := lv_entry ([.int a, .int b]) (n := 4) (Nat.le_of_ble_eq_true rfl)
  rw [lg_entry_eq]
  generalize (lg_sl ([.int a, .int b]) ++ List.replicate (4 - (lg_sl ([.int a, .int b])).length) Slot.unset).toArray = ls at hl ⊢
  have hl : lv_has ls 4 [(0, .int a), (1, .int b)] := hl
  have lq : ∀ (k : Nat) (xx : Int32) (ls : Array Slot), k ≤ 7 → mp_l2 k xx = mp_prod a b → lv_has ls 4 [(2, .int xx), (3, .int (nI (k + 7)))] → W p l e (headSpec wsX1_product ({ frames := 0, cells := 0, slots := 0, locals := 0 })).room s m ([.int a, .int b] : List Value).toArray below meth c s.heap [] 0 0 (MQ below (ff_Q (mp_prod a b)) ([.int a, .int b] : List Value).toArray s 0 0 ff_F) (F0 m 34 ls []) := by
    intro k
    induction k with
    | zero =>
      intro xx ls hk hv hl
      refine lv_iload_n hx hb dX1_product_34 rfl (lv_at hl 1 rfl) ?_
      refine lv_bipush (v := 8) hx hb dX1_product_35 (by decide) ?_
      refine lv_icmp_lt (tgt := 66) hx hb dX1_product_37 (by decide) (fun c_1 => ?_) (fun c_1 => ?_)
      · refine lv_iload_n hx hb dX1_product_66 rfl (lv_at hl 0 rfl) ?_
        exact W.iret (v := xx) hx hb hr (fun t ht hW => ⟨⟨xx, (), rfl, hv, trivial⟩, hS.F ht⟩) hS.2.2 dX1_product_67
      · exact absurd (by decide) c_1
    | succ k ih =>
      intro xx ls hk hv hl
      refine lv_iload_n hx hb dX1_product_34 rfl (lv_at hl 1 rfl) ?_
      refine lv_bipush (v := 8) hx hb dX1_product_35 (by decide) ?_
      refine lv_icmp_lt (tgt := 66) hx hb dX1_product_37 (by decide) (fun c_1 => ?_) (fun c_1 => ?_)
      · exact absurd c_1 (nI_nlt (a := k + 1 + 7) (b := 8) (by omega) (by omega))
      · refine lv_iload_n hx hb dX1_product_40 rfl (lv_at hl 0 rfl) ?_
        refine lv_iload_n hx hb dX1_product_41 rfl (lv_at hl 1 rfl) ?_
        refine lv_ishr hx hb dX1_product_42 ?_
        refine lv_iconst (v := 1) hx hb dX1_product_43 (by decide) ?_
        refine lv_iand hx hb dX1_product_44 ?_
        refine lv_iconst (v := 1) hx hb dX1_product_45 (by decide) ?_
        refine lv_icmp_ne (tgt := 60) hx hb dX1_product_46 (by decide) (fun c_2 => ?_) (fun c_2 => ?_)
        · have hs : mp_s2 (nI (k + 8)) xx = xx := if_neg c_2
          refine lv_iinc (v := (nI (k + 7))) (lv' := [(3, .int (nI (k + 7))), (2, .int xx)]) hx hb dX1_product_60 hl (k := 1) rfl (by rw [show Int32.ofInt (-1) = (-1 : Int32) by decide]; exact pk_m1 (k + 7)) (by decide) rfl (fun ls hl => ?_)
          refine lv_goto (tgt := 34) hx hb dX1_product_63 (by decide) ?_
          exact ih xx ls (by omega) (by rw [← hs]; exact hv) (lv_sub hl [1, 0] rfl)
        · refine lv_iload_n hx hb dX1_product_49 rfl (lv_at hl 0 rfl) ?_
          refine lv_sipush (v := 285) hx hb dX1_product_50 (by decide) ?_
          refine lv_iload_n hx hb dX1_product_53 rfl (lv_at hl 1 rfl) ?_
          refine lv_bipush (v := 8) hx hb dX1_product_54 (by decide) ?_
          refine lv_isub hx hb dX1_product_56 ?_
          refine lv_ishl hx hb dX1_product_57 ?_
          refine lv_ixor hx hb dX1_product_58 ?_
          refine lv_topi (fun x_1 ex_1 => ?_)
          refine lv_istore_n (lv' := [(2, .int x_1), (3, .int (nI (k + 1 + 7)))]) hx hb dX1_product_59 rfl hl (by decide) rfl (fun ls hl => ?_)
          have hs : mp_s2 (nI (k + 8)) xx = x_1 := by rw [ex_1]; exact if_pos c_2
          refine lv_iinc (v := (nI (k + 7))) (lv' := [(3, .int (nI (k + 7))), (2, .int x_1)]) hx hb dX1_product_60 hl (k := 1) rfl (by rw [show Int32.ofInt (-1) = (-1 : Int32) by decide]; exact pk_m1 (k + 7)) (by decide) rfl (fun ls hl => ?_)
          refine lv_goto (tgt := 34) hx hb dX1_product_63 (by decide) ?_
          exact ih x_1 ls (by omega) (by rw [← hs]; exact hv) (lv_sub hl [1, 0] rfl)
  have lp : ∀ (n : Nat) (pp : Int32) (ls : Array Slot), n ≤ 8 → mp_l2 7 (mp_l1 a b n pp) = mp_prod a b → lv_has ls 4 [(0, .int a), (1, .int b), (2, .int pp), (3, .int (nI (8 - n)))] → W p l e (headSpec wsX1_product ({ frames := 0, cells := 0, slots := 0, locals := 0 })).room s m ([.int a, .int b] : List Value).toArray below meth c s.heap [] 0 0 (MQ below (ff_Q (mp_prod a b)) ([.int a, .int b] : List Value).toArray s 0 0 ff_F) (F0 m 4 ls []) := by
    intro n
    induction n with
    | zero =>
      intro pp ls hn hv hl
      refine lv_iload_n hx hb dX1_product_4 rfl (lv_at hl 3 rfl) ?_
      refine lv_bipush (v := 8) hx hb dX1_product_5 (by decide) ?_
      refine lv_icmp_ge (tgt := 31) hx hb dX1_product_7 (by decide) (fun c_1 => ?_) (fun c_1 => ?_)
      · refine lv_bipush (v := 14) hx hb dX1_product_31 (by decide) ?_
        refine lv_istore_n (lv' := [(3, .int 14), (0, .int a), (1, .int b), (2, .int pp)]) hx hb dX1_product_33 rfl hl (by decide) rfl (fun ls hl => ?_)
        exact lq 7 pp ls (by omega) hv (lv_sub hl [3, 0] rfl)
      · exact absurd (by decide) c_1
    | succ n ih =>
      intro pp ls hn hv hl
      rw [show 8 - (n + 1) = 7 - n by omega] at hl
      refine lv_iload_n hx hb dX1_product_4 rfl (lv_at hl 3 rfl) ?_
      refine lv_bipush (v := 8) hx hb dX1_product_5 (by decide) ?_
      refine lv_icmp_ge (tgt := 31) hx hb dX1_product_7 (by decide) (fun c_1 => ?_) (fun c_1 => ?_)
      · exact absurd c_1 (nI_ge (a := 7 - n) (b := 8) (by omega) (by omega))
      · refine lv_iload_n hx hb dX1_product_10 rfl (lv_at hl 1 rfl) ?_
        refine lv_iload_n hx hb dX1_product_11 rfl (lv_at hl 3 rfl) ?_
        refine lv_ishr hx hb dX1_product_12 ?_
        refine lv_iconst (v := 1) hx hb dX1_product_13 (by decide) ?_
        refine lv_iand hx hb dX1_product_14 ?_
        refine lv_iconst (v := 1) hx hb dX1_product_15 (by decide) ?_
        refine lv_icmp_ne (tgt := 25) hx hb dX1_product_16 (by decide) (fun c_2 => ?_) (fun c_2 => ?_)
        · have hs : mp_s1 a b (nI (7 - n)) pp = pp := if_neg c_2
          refine lv_iinc (v := (nI (8 - n))) (lv' := [(3, .int (nI (8 - n))), (0, .int a), (1, .int b), (2, .int pp)]) hx hb dX1_product_25 hl (k := 3) rfl (by rw [show Int32.ofInt 1 = (1 : Int32) by decide, nI_1, show 7 - n + 1 = 8 - n by omega]) (by decide) rfl (fun ls hl => ?_)
          refine lv_goto (tgt := 4) hx hb dX1_product_28 (by decide) ?_
          exact ih pp ls (by omega) (by rw [← hs]; exact hv) (lv_sub hl [1, 2, 3, 0] rfl)
        · refine lv_iload_n hx hb dX1_product_19 rfl (lv_at hl 2 rfl) ?_
          refine lv_iload_n hx hb dX1_product_20 rfl (lv_at hl 0 rfl) ?_
          refine lv_iload_n hx hb dX1_product_21 rfl (lv_at hl 3 rfl) ?_
          refine lv_ishl hx hb dX1_product_22 ?_
          refine lv_ixor hx hb dX1_product_23 ?_
          refine lv_topi (fun x_2 ex_2 => ?_)
          refine lv_istore_n (lv' := [(2, .int x_2), (0, .int a), (1, .int b), (3, .int (nI (7 - n)))]) hx hb dX1_product_24 rfl hl (by decide) rfl (fun ls hl => ?_)
          have hs : mp_s1 a b (nI (7 - n)) pp = x_2 := by rw [ex_2]; exact if_pos c_2
          refine lv_iinc (v := (nI (8 - n))) (lv' := [(3, .int (nI (8 - n))), (2, .int x_2), (0, .int a), (1, .int b)]) hx hb dX1_product_25 hl (k := 3) rfl (by rw [show Int32.ofInt 1 = (1 : Int32) by decide, nI_1, show 7 - n + 1 = 8 - n by omega]) (by decide) rfl (fun ls hl => ?_)
          refine lv_goto (tgt := 4) hx hb dX1_product_28 (by decide) ?_
          exact ih x_2 ls (by omega) (by rw [← hs]; exact hv) (lv_sub hl [2, 3, 1, 0] rfl)
  refine lv_iconst (v := 0) hx hb dX1_product_0 (by decide) ?_
  refine lv_istore_n (lv' := [(2, .int 0), (0, .int a), (1, .int b)]) hx hb dX1_product_1 rfl hl (by decide) rfl (fun ls hl => ?_)
  refine lv_iconst (v := 0) hx hb dX1_product_2 (by decide) ?_
  refine lv_istore_n (lv' := [(3, .int 0), (2, .int 0), (0, .int a), (1, .int b)]) hx hb dX1_product_3 rfl hl (by decide) rfl (fun ls hl => ?_)
  exact lp 8 0 ls (by omega) rfl (lv_sub hl [2, 3, 1, 0] rfl)
set_option maxHeartbeats 4000000 in
set_option maxRecDepth 100000 in
/-- the quotient -/
theorem metX1_quotient (l : Launch) (a b : Int32) : Met l yX1_quotient wsX1_quotient ({ frames := 1, cells := 0, slots := 0, locals := 23 }) (ff_P [.int a, .int b]) (ff_Q (mp_quo a b)) 0 0 ff_F := by
  refine Met.ofW (cc := cX1_quotient) (maxL := 3) (ret := (some .int)) (by decide) rfl ?_
  intro p e s m args below meth c s₁ B hml hv
  obtain ⟨rfl, -⟩ := hv
  have hx := B.exec
  have hb := B.bytes
  have hr := B.returns
  have hts := atoms_spec (ws := wsX1_quotient) B.pre
  have hts : ∀ w ∈ lw_all, w.before _ s = true := fun w h => hts w (List.mem_cons_of_mem _ h)
  have hown : s.vm.findClass RX1 = some m.cls := findClass_of_methodNamed B.named
  have hlocks := B.notSynchronized
  have hS : va_S ff_F s.heap s.heap [] := va_S.rf
  have hl := lv_entry ([.int a, .int b]) (n := 3) (Nat.le_of_ble_eq_true rfl)
  rw [lg_entry_eq]
  generalize (lg_sl ([.int a, .int b]) ++ List.replicate (3 - (lg_sl ([.int a, .int b])).length) Slot.unset).toArray = ls at hl ⊢
  have hl : lv_has ls 3 [(0, .int a), (1, .int b)] := hl
  have lp : ∀ (n : Nat) (H : Heap) (locs : List Loc) (ls : Array Slot), n ≤ 256 → mp_ql a b n = mp_quo a b → va_S ff_F s.heap H locs → lv_has ls 3 [(0, .int a), (1, .int b), (2, .int (nI (256 - n)))] → W p l e (headSpec wsX1_quotient ({ frames := 1, cells := 0, slots := 0, locals := 23 })).room s m ([.int a, .int b] : List Value).toArray below meth c H locs 0 0 (MQ below (ff_Q (mp_quo a b)) ([.int a, .int b] : List Value).toArray s 0 0 ff_F) (F0 m 2 ls []) := by
    intro n
    induction n with
    | zero =>
      intro H locs ls hn hv hS hl
      refine lv_iload_n hx hb dX1_quotient_2 rfl (lv_at hl 2 rfl) ?_
      refine lv_sipush (v := 256) hx hb dX1_quotient_3 (by decide) ?_
      refine lv_icmp_ge (tgt := 26) hx hb dX1_quotient_6 (by decide) (fun c_1 => ?_) (fun c_1 => ?_)
      · refine lv_iconst (v := (-1)) hx hb dX1_quotient_26 (by decide) ?_
        exact W.iret (v := (-1)) hx hb hr (fun t ht hW => ⟨⟨(-1), (), rfl, hv, trivial⟩, hS.F ht⟩) hS.2.2 dX1_quotient_27
      · exact absurd (by decide) c_1
    | succ n ih =>
      intro H locs ls hn hv hS hl
      rw [show 256 - (n + 1) = 255 - n by omega] at hl
      refine lv_iload_n hx hb dX1_quotient_2 rfl (lv_at hl 2 rfl) ?_
      refine lv_sipush (v := 256) hx hb dX1_quotient_3 (by decide) ?_
      refine lv_icmp_ge (tgt := 26) hx hb dX1_quotient_6 (by decide) (fun c_1 => ?_) (fun c_1 => ?_)
      · exact absurd c_1 (nI_ge (a := 255 - n) (b := 256) (by omega) (by omega))
      · refine lv_iload_n hx hb dX1_quotient_9 rfl (lv_at hl 2 rfl) ?_
        refine lv_iload_n hx hb dX1_quotient_10 rfl (lv_at hl 1 rfl) ?_
        refine ff_goon (v := (mp_prod (nI (255 - n)) b)) (rest := []) (va_runS (As := [.int (nI (255 - n)), .int b]) ⟨hx, hb, hml, hown, hts⟩ (metX1_product l (nI (255 - n)) b) (va_cwS 2 hts (lw_S q83 q84 q2 q85) rfl rfl rfl (by decide +kernel) ⟨Nat.le_of_ble_eq_true rfl, Nat.le_of_ble_eq_true rfl⟩) ⟨ff_blind _, fun U hU hW => ⟨rfl, trivial⟩⟩ rfl rfl hl.1 rfl (lv_room (Nat.le_of_ble_eq_true rfl)) dX1_quotient_11 ⟨Nat.le_of_ble_eq_true rfl, Nat.le_of_ble_eq_true rfl⟩) hS (fun H locs hk hS => ?_)
        clear hk
        refine lv_iload_n hx hb dX1_quotient_14 rfl (lv_at hl 0 rfl) ?_
        refine lv_icmp_ne (tgt := 20) hx hb dX1_quotient_15 (by decide) (fun c_2 => ?_) (fun c_2 => ?_)
        · have hs : mp_ql a b (n + 1) = mp_ql a b n := if_neg c_2
          refine lv_iinc (v := (nI (256 - n))) (lv' := [(2, .int (nI (256 - n))), (0, .int a), (1, .int b)]) hx hb dX1_quotient_20 hl (k := 2) rfl (by rw [show Int32.ofInt 1 = (1 : Int32) by decide, nI_1, show 255 - n + 1 = 256 - n by omega]) (by decide) rfl (fun ls hl => ?_)
          refine lv_goto (tgt := 2) hx hb dX1_quotient_23 (by decide) ?_
          exact ih H locs ls (by omega) (by rw [← hs]; exact hv) hS (lv_sub hl [1, 2, 0] rfl)
        · have hs : mp_ql a b (n + 1) = nI (255 - n) := if_pos c_2
          refine lv_iload_n hx hb dX1_quotient_18 rfl (lv_at hl 2 rfl) ?_
          exact W.iret (v := (nI (255 - n))) hx hb hr (fun t ht hW => ⟨⟨(nI (255 - n)), (), rfl, (by rw [← hs]; exact hv), trivial⟩, hS.F ht⟩) hS.2.2 dX1_quotient_19
  refine lv_iconst (v := 0) hx hb dX1_quotient_0 (by decide) ?_
  refine lv_istore_n (lv' := [(2, .int 0), (0, .int a), (1, .int b)]) hx hb dX1_quotient_1 rfl hl (by decide) rfl (fun ls hl => ?_)
  exact lp 256 s.heap [] ls (by omega) rfl hS (lv_sub hl [1, 2, 0] rfl)
set_option maxHeartbeats 4000000 in
set_option maxRecDepth 100000 in
/-- times -/
theorem metX1_times (l : Launch) (h0 : Nat) (a b : Int32) : Met l yX1_times wsX1_times ({ frames := 1, cells := 0, slots := 0, locals := 23 }) (ff_P [.ref h0, .int a, .int b]) (ff_Q (mp_prod (a &&& 255) (b &&& 255))) 0 0 ff_F := by
  refine Met.ofW (cc := cX1_times) (maxL := 3) (ret := (some .int)) (by decide) rfl ?_
  intro p e s m args below meth c s₁ B hml hv
  obtain ⟨rfl, -⟩ := hv
  have hx := B.exec
  have hb := B.bytes
  have hr := B.returns
  have hts := atoms_spec (ws := wsX1_times) B.pre
  have hts : ∀ w ∈ lw_all, w.before _ s = true := fun w h => hts w (List.mem_cons_of_mem _ h)
  have hown : s.vm.findClass RX1 = some m.cls := findClass_of_methodNamed B.named
  have hlocks := B.notSynchronized
  have hS : va_S ff_F s.heap s.heap [] := va_S.rf
  have hl := lv_entry ([.ref h0, .int a, .int b]) (n := 3) (Nat.le_of_ble_eq_true rfl)
  rw [lg_entry_eq]
  generalize (lg_sl ([.ref h0, .int a, .int b]) ++ List.replicate (3 - (lg_sl ([.ref h0, .int a, .int b])).length) Slot.unset).toArray = ls at hl ⊢
  have hl : lv_has ls 3 [(0, .ref h0), (1, .int a), (2, .int b)] := hl
  refine lv_iload_n hx hb dX1_times_0 rfl (lv_at hl 1 rfl) ?_
  refine lv_sipush (v := 255) hx hb dX1_times_1 (by decide) ?_
  refine lv_iand hx hb dX1_times_4 ?_
  refine lv_iload_n hx hb dX1_times_5 rfl (lv_at hl 2 rfl) ?_
  refine lv_sipush (v := 255) hx hb dX1_times_6 (by decide) ?_
  refine lv_iand hx hb dX1_times_9 ?_
  refine ff_goon (v := (mp_prod (a &&& 255) (b &&& 255))) (rest := []) (va_runS (As := [.int (a &&& 255), .int (b &&& 255)]) ⟨hx, hb, hml, hown, hts⟩ (metX1_product l (a &&& 255) (b &&& 255)) (va_cwS 2 hts (lw_S q83 q84 q2 q85) rfl rfl rfl (by decide +kernel) ⟨Nat.le_of_ble_eq_true rfl, Nat.le_of_ble_eq_true rfl⟩) ⟨ff_blind _, fun U hU hW => ⟨rfl, trivial⟩⟩ rfl rfl hl.1 rfl (lv_room (Nat.le_of_ble_eq_true rfl)) dX1_times_10 ⟨Nat.le_of_ble_eq_true rfl, Nat.le_of_ble_eq_true rfl⟩) hS (fun H locs hk hS => ?_)
  clear hk
  exact W.iret (v := (mp_prod (a &&& 255) (b &&& 255))) hx hb hr (fun t ht hW => ⟨⟨(mp_prod (a &&& 255) (b &&& 255)), (), rfl, rfl, trivial⟩, hS.F ht⟩) hS.2.2 dX1_times_13
set_option maxHeartbeats 4000000 in
set_option maxRecDepth 100000 in
/-- timesThree -/
theorem metX1_timesThree (l : Launch) (h0 : Nat) (a b d : Int32) : Met l yX1_timesThree wsX1_timesThree ({ frames := 1, cells := 0, slots := 0, locals := 23 }) (ff_P [.ref h0, .int a, .int b, .int d]) (ff_Q (mp_prod (a &&& 255) (mp_prod (b &&& 255) (d &&& 255)))) 0 0 ff_F := by
  refine Met.ofW (cc := cX1_timesThree) (maxL := 4) (ret := (some .int)) (by decide) rfl ?_
  intro p e s m args below meth c s₁ B hml hv
  obtain ⟨rfl, -⟩ := hv
  have hx := B.exec
  have hb := B.bytes
  have hr := B.returns
  have hts := atoms_spec (ws := wsX1_timesThree) B.pre
  have hts : ∀ w ∈ lw_all, w.before _ s = true := fun w h => hts w (List.mem_cons_of_mem _ h)
  have hown : s.vm.findClass RX1 = some m.cls := findClass_of_methodNamed B.named
  have hlocks := B.notSynchronized
  have hS : va_S ff_F s.heap s.heap [] := va_S.rf
  have hl := lv_entry ([.ref h0, .int a, .int b, .int d]) (n := 4) (Nat.le_of_ble_eq_true rfl)
  rw [lg_entry_eq]
  generalize (lg_sl ([.ref h0, .int a, .int b, .int d]) ++ List.replicate (4 - (lg_sl ([.ref h0, .int a, .int b, .int d])).length) Slot.unset).toArray = ls at hl ⊢
  have hl : lv_has ls 4 [(0, .ref h0), (1, .int a), (2, .int b), (3, .int d)] := hl
  refine lv_iload_n hx hb dX1_timesThree_0 rfl (lv_at hl 1 rfl) ?_
  refine lv_sipush (v := 255) hx hb dX1_timesThree_1 (by decide) ?_
  refine lv_iand hx hb dX1_timesThree_4 ?_
  refine lv_iload_n hx hb dX1_timesThree_5 rfl (lv_at hl 2 rfl) ?_
  refine lv_sipush (v := 255) hx hb dX1_timesThree_6 (by decide) ?_
  refine lv_iand hx hb dX1_timesThree_9 ?_
  refine lv_iload_n hx hb dX1_timesThree_10 rfl (lv_at hl 3 rfl) ?_
  refine lv_sipush (v := 255) hx hb dX1_timesThree_11 (by decide) ?_
  refine lv_iand hx hb dX1_timesThree_14 ?_
  refine ff_goon (v := (mp_prod (b &&& 255) (d &&& 255))) (rest := [.int (a &&& 255)]) (va_runS (As := [.int (b &&& 255), .int (d &&& 255)]) ⟨hx, hb, hml, hown, hts⟩ (metX1_product l (b &&& 255) (d &&& 255)) (va_cwS 2 hts (lw_S q83 q84 q2 q85) rfl rfl rfl (by decide +kernel) ⟨Nat.le_of_ble_eq_true rfl, Nat.le_of_ble_eq_true rfl⟩) ⟨ff_blind _, fun U hU hW => ⟨rfl, trivial⟩⟩ rfl rfl hl.1 rfl (lv_room (Nat.le_of_ble_eq_true rfl)) dX1_timesThree_15 ⟨Nat.le_of_ble_eq_true rfl, Nat.le_of_ble_eq_true rfl⟩) hS (fun H locs hk hS => ?_)
  clear hk
  refine ff_goon (v := (mp_prod (a &&& 255) (mp_prod (b &&& 255) (d &&& 255)))) (rest := []) (va_runS (As := [.int (a &&& 255), .int (mp_prod (b &&& 255) (d &&& 255))]) ⟨hx, hb, hml, hown, hts⟩ (metX1_product l (a &&& 255) (mp_prod (b &&& 255) (d &&& 255))) (va_cwS 2 hts (lw_S q83 q84 q2 q85) rfl rfl rfl (by decide +kernel) ⟨Nat.le_of_ble_eq_true rfl, Nat.le_of_ble_eq_true rfl⟩) ⟨ff_blind _, fun U hU hW => ⟨rfl, trivial⟩⟩ rfl rfl hl.1 rfl (lv_room (Nat.le_of_ble_eq_true rfl)) dX1_timesThree_18 ⟨Nat.le_of_ble_eq_true rfl, Nat.le_of_ble_eq_true rfl⟩) hS (fun H locs hk hS => ?_)
  clear hk
  exact W.iret (v := (mp_prod (a &&& 255) (mp_prod (b &&& 255) (d &&& 255)))) hx hb hr (fun t ht hW => ⟨⟨(mp_prod (a &&& 255) (mp_prod (b &&& 255) (d &&& 255))), (), rfl, rfl, trivial⟩, hS.F ht⟩) hS.2.2 dX1_timesThree_21
set_option maxHeartbeats 4000000 in
set_option maxRecDepth 100000 in
/-- square -/
theorem metX1_square (l : Launch) (h0 : Nat) (a : Int32) : Met l yX1_square wsX1_square ({ frames := 1, cells := 0, slots := 0, locals := 23 }) (ff_P [.ref h0, .int a]) (ff_Q (mp_prod (a &&& 255) (a &&& 255))) 0 0 ff_F := by
  refine Met.ofW (cc := cX1_square) (maxL := 2) (ret := (some .int)) (by decide) rfl ?_
  intro p e s m args below meth c s₁ B hml hv
  obtain ⟨rfl, -⟩ := hv
  have hx := B.exec
  have hb := B.bytes
  have hr := B.returns
  have hts := atoms_spec (ws := wsX1_square) B.pre
  have hts : ∀ w ∈ lw_all, w.before _ s = true := fun w h => hts w (List.mem_cons_of_mem _ h)
  have hown : s.vm.findClass RX1 = some m.cls := findClass_of_methodNamed B.named
  have hlocks := B.notSynchronized
  have hS : va_S ff_F s.heap s.heap [] := va_S.rf
  have hl := lv_entry ([.ref h0, .int a]) (n := 2) (Nat.le_of_ble_eq_true rfl)
  rw [lg_entry_eq]
  generalize (lg_sl ([.ref h0, .int a]) ++ List.replicate (2 - (lg_sl ([.ref h0, .int a])).length) Slot.unset).toArray = ls at hl ⊢
  have hl : lv_has ls 2 [(0, .ref h0), (1, .int a)] := hl
  refine lv_iload_n hx hb dX1_square_0 rfl (lv_at hl 1 rfl) ?_
  refine lv_sipush (v := 255) hx hb dX1_square_1 (by decide) ?_
  refine lv_iand hx hb dX1_square_4 ?_
  refine lv_iload_n hx hb dX1_square_5 rfl (lv_at hl 1 rfl) ?_
  refine lv_sipush (v := 255) hx hb dX1_square_6 (by decide) ?_
  refine lv_iand hx hb dX1_square_9 ?_
  refine ff_goon (v := (mp_prod (a &&& 255) (a &&& 255))) (rest := []) (va_runS (As := [.int (a &&& 255), .int (a &&& 255)]) ⟨hx, hb, hml, hown, hts⟩ (metX1_product l (a &&& 255) (a &&& 255)) (va_cwS 2 hts (lw_S q83 q84 q2 q85) rfl rfl rfl (by decide +kernel) ⟨Nat.le_of_ble_eq_true rfl, Nat.le_of_ble_eq_true rfl⟩) ⟨ff_blind _, fun U hU hW => ⟨rfl, trivial⟩⟩ rfl rfl hl.1 rfl (lv_room (Nat.le_of_ble_eq_true rfl)) dX1_square_10 ⟨Nat.le_of_ble_eq_true rfl, Nat.le_of_ble_eq_true rfl⟩) hS (fun H locs hk hS => ?_)
  clear hk
  exact W.iret (v := (mp_prod (a &&& 255) (a &&& 255))) hx hb hr (fun t ht hW => ⟨⟨(mp_prod (a &&& 255) (a &&& 255)), (), rfl, rfl, trivial⟩, hS.F ht⟩) hS.2.2 dX1_square_13
set_option maxHeartbeats 4000000 in
set_option maxRecDepth 100000 in
/-- inverse -/
theorem metX1_inverse (l : Launch) (h0 : Nat) (a : Int32) : Met l yX1_inverse wsX1_inverse ({ frames := 2, cells := 0, slots := 0, locals := 45 }) (ff_P [.ref h0, .int a]) (ff_Q (if a &&& 255 = 0 then (-1 : Int32) else mp_quo 1 (a &&& 255))) 0 0 ff_F := by
  refine Met.ofW (cc := cX1_inverse) (maxL := 2) (ret := (some .int)) (by decide) rfl ?_
  intro p e s m args below meth c s₁ B hml hv
  obtain ⟨rfl, -⟩ := hv
  have hx := B.exec
  have hb := B.bytes
  have hr := B.returns
  have hts := atoms_spec (ws := wsX1_inverse) B.pre
  have hts : ∀ w ∈ lw_all, w.before _ s = true := fun w h => hts w (List.mem_cons_of_mem _ h)
  have hown : s.vm.findClass RX1 = some m.cls := findClass_of_methodNamed B.named
  have hlocks := B.notSynchronized
  have hS : va_S ff_F s.heap s.heap [] := va_S.rf
  have hl := lv_entry ([.ref h0, .int a]) (n := 2) (Nat.le_of_ble_eq_true rfl)
  rw [lg_entry_eq]
  generalize (lg_sl ([.ref h0, .int a]) ++ List.replicate (2 - (lg_sl ([.ref h0, .int a])).length) Slot.unset).toArray = ls at hl ⊢
  have hl : lv_has ls 2 [(0, .ref h0), (1, .int a)] := hl
  refine lv_iload_n hx hb dX1_inverse_0 rfl (lv_at hl 1 rfl) ?_
  refine lv_sipush (v := 255) hx hb dX1_inverse_1 (by decide) ?_
  refine lv_iand hx hb dX1_inverse_4 ?_
  refine lv_if_ne (tgt := 12) hx hb dX1_inverse_5 (by decide) (fun c_1 => ?_) (fun c_1 => ?_)
  · refine lv_iconst (v := 1) hx hb dX1_inverse_12 (by decide) ?_
    refine lv_iload_n hx hb dX1_inverse_13 rfl (lv_at hl 1 rfl) ?_
    refine lv_sipush (v := 255) hx hb dX1_inverse_14 (by decide) ?_
    refine lv_iand hx hb dX1_inverse_17 ?_
    refine ff_goon (v := (mp_quo 1 (a &&& 255))) (rest := []) (va_runS (As := [.int 1, .int (a &&& 255)]) ⟨hx, hb, hml, hown, hts⟩ (metX1_quotient l 1 (a &&& 255)) (va_cwS 2 hts (lw_S q98 q99 q2 q100) rfl rfl rfl (by decide +kernel) ⟨Nat.le_of_ble_eq_true rfl, Nat.le_of_ble_eq_true rfl⟩) ⟨ff_blind _, fun U hU hW => ⟨rfl, trivial⟩⟩ rfl rfl hl.1 rfl (lv_room (Nat.le_of_ble_eq_true rfl)) dX1_inverse_18 ⟨Nat.le_of_ble_eq_true rfl, Nat.le_of_ble_eq_true rfl⟩) hS (fun H locs hk hS => ?_)
    clear hk
    exact W.iret (v := (mp_quo 1 (a &&& 255))) hx hb hr (fun t ht hW => ⟨⟨(mp_quo 1 (a &&& 255)), (), rfl, (if_neg c_1).symm, trivial⟩, hS.F ht⟩) hS.2.2 dX1_inverse_21
  · refine lv_iconst (v := (-1)) hx hb dX1_inverse_8 (by decide) ?_
    refine lv_goto (tgt := 21) hx hb dX1_inverse_9 (by decide) ?_
    exact W.iret (v := (-1)) hx hb hr (fun t ht hW => ⟨⟨(-1), (), rfl, (if_pos c_1).symm, trivial⟩, hS.F ht⟩) hS.2.2 dX1_inverse_21
set_option maxHeartbeats 4000000 in
set_option maxRecDepth 100000 in
/-- divide -/
theorem metX1_divide (l : Launch) (h0 : Nat) (a b : Int32) : Met l yX1_divide wsX1_divide ({ frames := 2, cells := 0, slots := 0, locals := 45 }) (ff_P [.ref h0, .int a, .int b]) (ff_Q (if b &&& 255 = 0 then (-1 : Int32) else mp_quo (a &&& 255) (b &&& 255))) 0 0 ff_F := by
  refine Met.ofW (cc := cX1_divide) (maxL := 3) (ret := (some .int)) (by decide) rfl ?_
  intro p e s m args below meth c s₁ B hml hv
  obtain ⟨rfl, -⟩ := hv
  have hx := B.exec
  have hb := B.bytes
  have hr := B.returns
  have hts := atoms_spec (ws := wsX1_divide) B.pre
  have hts : ∀ w ∈ lw_all, w.before _ s = true := fun w h => hts w (List.mem_cons_of_mem _ h)
  have hown : s.vm.findClass RX1 = some m.cls := findClass_of_methodNamed B.named
  have hlocks := B.notSynchronized
  have hS : va_S ff_F s.heap s.heap [] := va_S.rf
  have hl := lv_entry ([.ref h0, .int a, .int b]) (n := 3) (Nat.le_of_ble_eq_true rfl)
  rw [lg_entry_eq]
  generalize (lg_sl ([.ref h0, .int a, .int b]) ++ List.replicate (3 - (lg_sl ([.ref h0, .int a, .int b])).length) Slot.unset).toArray = ls at hl ⊢
  have hl : lv_has ls 3 [(0, .ref h0), (1, .int a), (2, .int b)] := hl
  refine lv_iload_n hx hb dX1_divide_0 rfl (lv_at hl 2 rfl) ?_
  refine lv_sipush (v := 255) hx hb dX1_divide_1 (by decide) ?_
  refine lv_iand hx hb dX1_divide_4 ?_
  refine lv_if_ne (tgt := 12) hx hb dX1_divide_5 (by decide) (fun c_1 => ?_) (fun c_1 => ?_)
  · refine lv_iload_n hx hb dX1_divide_12 rfl (lv_at hl 1 rfl) ?_
    refine lv_sipush (v := 255) hx hb dX1_divide_13 (by decide) ?_
    refine lv_iand hx hb dX1_divide_16 ?_
    refine lv_iload_n hx hb dX1_divide_17 rfl (lv_at hl 2 rfl) ?_
    refine lv_sipush (v := 255) hx hb dX1_divide_18 (by decide) ?_
    refine lv_iand hx hb dX1_divide_21 ?_
    refine ff_goon (v := (mp_quo (a &&& 255) (b &&& 255))) (rest := []) (va_runS (As := [.int (a &&& 255), .int (b &&& 255)]) ⟨hx, hb, hml, hown, hts⟩ (metX1_quotient l (a &&& 255) (b &&& 255)) (va_cwS 2 hts (lw_S q98 q99 q2 q100) rfl rfl rfl (by decide +kernel) ⟨Nat.le_of_ble_eq_true rfl, Nat.le_of_ble_eq_true rfl⟩) ⟨ff_blind _, fun U hU hW => ⟨rfl, trivial⟩⟩ rfl rfl hl.1 rfl (lv_room (Nat.le_of_ble_eq_true rfl)) dX1_divide_22 ⟨Nat.le_of_ble_eq_true rfl, Nat.le_of_ble_eq_true rfl⟩) hS (fun H locs hk hS => ?_)
    clear hk
    exact W.iret (v := (mp_quo (a &&& 255) (b &&& 255))) hx hb hr (fun t ht hW => ⟨⟨(mp_quo (a &&& 255) (b &&& 255)), (), rfl, (if_neg c_1).symm, trivial⟩, hS.F ht⟩) hS.2.2 dX1_divide_25
  · refine lv_iconst (v := (-1)) hx hb dX1_divide_8 (by decide) ?_
    refine lv_goto (tgt := 25) hx hb dX1_divide_9 (by decide) ?_
    exact W.iret (v := (-1)) hx hb hr (fun t ht hW => ⟨⟨(-1), (), rfl, (if_pos c_1).symm, trivial⟩, hS.F ht⟩) hS.2.2 dX1_divide_25
end
section
/-! THE WALKS OF ByteField: what needs no object -/
set_option maxHeartbeats 4000000 in
set_option maxRecDepth 100000 in
/-- times -/
theorem metX0_times (l : Launch) (h0 : Nat) (a b : Int32) : Met l yX0_times wsX0_times ({ frames := 2, cells := 0, slots := 0, locals := 46 }) (ff_P [.ref h0, .int a, .int b]) (ff_Q (gf_mul (a &&& 255) (b &&& 255))) 0 0 ff_F := by
  refine Met.ofW (cc := cX0_times) (maxL := 3) (ret := (some .int)) (by decide) rfl ?_
  intro p e s m args below meth c s₁ B hml hv
  obtain ⟨rfl, -⟩ := hv
  have hx := B.exec
  have hb := B.bytes
  have hr := B.returns
  have hts := atoms_spec (ws := wsX0_times) B.pre
  have hts : ∀ w ∈ lw_all, w.before _ s = true := fun w h => hts w (List.mem_cons_of_mem _ h)
  have hown : s.vm.findClass RX0 = some m.cls := findClass_of_methodNamed B.named
  have hlocks := B.notSynchronized
  have hS : va_S ff_F s.heap s.heap [] := va_S.rf
  have hl := lv_entry ([.ref h0, .int a, .int b]) (n := 3) (Nat.le_of_ble_eq_true rfl)
  rw [lg_entry_eq]
  generalize (lg_sl ([.ref h0, .int a, .int b]) ++ List.replicate (3 - (lg_sl ([.ref h0, .int a, .int b])).length) Slot.unset).toArray = ls at hl ⊢
  have hl : lv_has ls 3 [(0, .ref h0), (1, .int a), (2, .int b)] := hl
  refine lv_iload_n hx hb dX0_times_0 rfl (lv_at hl 1 rfl) ?_
  refine lv_sipush (v := 255) hx hb dX0_times_1 (by decide) ?_
  refine lv_iand hx hb dX0_times_4 ?_
  refine lv_iload_n hx hb dX0_times_5 rfl (lv_at hl 2 rfl) ?_
  refine lv_sipush (v := 255) hx hb dX0_times_6 (by decide) ?_
  refine lv_iand hx hb dX0_times_9 ?_
  refine ff_goon (v := (gf_mul (a &&& 255) (b &&& 255))) (rest := []) (va_runS (As := [.int (a &&& 255), .int (b &&& 255)]) ⟨hx, hb, hml, hown, hts⟩ (metX2_mul l (a &&& 255) (b &&& 255)) (va_cwS 2 hts (lw_S q20 q21 q3 q22) rfl rfl rfl (by decide +kernel) ⟨Nat.le_of_ble_eq_true rfl, Nat.le_of_ble_eq_true rfl⟩) ⟨ff_blind _, fun U hU hW => ⟨rfl, trivial⟩⟩ rfl rfl hl.1 rfl (lv_room (Nat.le_of_ble_eq_true rfl)) dX0_times_10 ⟨Nat.le_of_ble_eq_true rfl, Nat.le_of_ble_eq_true rfl⟩) hS (fun H locs hk hS => ?_)
  clear hk
  exact W.iret (v := (gf_mul (a &&& 255) (b &&& 255))) hx hb hr (fun t ht hW => ⟨⟨(gf_mul (a &&& 255) (b &&& 255)), (), rfl, rfl, trivial⟩, hS.F ht⟩) hS.2.2 dX0_times_13
set_option maxHeartbeats 4000000 in
set_option maxRecDepth 100000 in
/-- timesThree -/
theorem metX0_timesThree (l : Launch) (h0 : Nat) (a b d : Int32) : Met l yX0_timesThree wsX0_timesThree ({ frames := 3, cells := 0, slots := 0, locals := 68 }) (ff_P [.ref h0, .int a, .int b, .int d]) (ff_Q (gf_mul (gf_mul (a &&& 255) (b &&& 255)) (d &&& 255))) 0 0 ff_F := by
  refine Met.ofW (cc := cX0_timesThree) (maxL := 4) (ret := (some .int)) (by decide) rfl ?_
  intro p e s m args below meth c s₁ B hml hv
  obtain ⟨rfl, -⟩ := hv
  have hx := B.exec
  have hb := B.bytes
  have hr := B.returns
  have hts := atoms_spec (ws := wsX0_timesThree) B.pre
  have hts : ∀ w ∈ lw_all, w.before _ s = true := fun w h => hts w (List.mem_cons_of_mem _ h)
  have hown : s.vm.findClass RX0 = some m.cls := findClass_of_methodNamed B.named
  have hlocks := B.notSynchronized
  have hS : va_S ff_F s.heap s.heap [] := va_S.rf
  have hl := lv_entry ([.ref h0, .int a, .int b, .int d]) (n := 4) (Nat.le_of_ble_eq_true rfl)
  rw [lg_entry_eq]
  generalize (lg_sl ([.ref h0, .int a, .int b, .int d]) ++ List.replicate (4 - (lg_sl ([.ref h0, .int a, .int b, .int d])).length) Slot.unset).toArray = ls at hl ⊢
  have hl : lv_has ls 4 [(0, .ref h0), (1, .int a), (2, .int b), (3, .int d)] := hl
  refine lv_iload_n hx hb dX0_timesThree_0 rfl (lv_at hl 1 rfl) ?_
  refine lv_sipush (v := 255) hx hb dX0_timesThree_1 (by decide) ?_
  refine lv_iand hx hb dX0_timesThree_4 ?_
  refine lv_iload_n hx hb dX0_timesThree_5 rfl (lv_at hl 2 rfl) ?_
  refine lv_sipush (v := 255) hx hb dX0_timesThree_6 (by decide) ?_
  refine lv_iand hx hb dX0_timesThree_9 ?_
  refine lv_iload_n hx hb dX0_timesThree_10 rfl (lv_at hl 3 rfl) ?_
  refine lv_sipush (v := 255) hx hb dX0_timesThree_11 (by decide) ?_
  refine lv_iand hx hb dX0_timesThree_14 ?_
  refine ff_goon (v := (gf_mul (gf_mul (a &&& 255) (b &&& 255)) (d &&& 255))) (rest := []) (va_runS (As := [.int (a &&& 255), .int (b &&& 255), .int (d &&& 255)]) ⟨hx, hb, hml, hown, hts⟩ (metX2_mul3 l (a &&& 255) (b &&& 255) (d &&& 255)) (va_cwS 3 hts (lw_S q30 q31 q3 q32) rfl rfl rfl (by decide +kernel) ⟨Nat.le_of_ble_eq_true rfl, Nat.le_of_ble_eq_true rfl⟩) ⟨ff_blind _, fun U hU hW => ⟨rfl, trivial⟩⟩ rfl rfl hl.1 rfl (lv_room (Nat.le_of_ble_eq_true rfl)) dX0_timesThree_15 ⟨Nat.le_of_ble_eq_true rfl, Nat.le_of_ble_eq_true rfl⟩) hS (fun H locs hk hS => ?_)
  clear hk
  exact W.iret (v := (gf_mul (gf_mul (a &&& 255) (b &&& 255)) (d &&& 255))) hx hb hr (fun t ht hW => ⟨⟨(gf_mul (gf_mul (a &&& 255) (b &&& 255)) (d &&& 255)), (), rfl, rfl, trivial⟩, hS.F ht⟩) hS.2.2 dX0_timesThree_18
set_option maxHeartbeats 4000000 in
set_option maxRecDepth 100000 in
/-- square -/
theorem metX0_square (l : Launch) (h0 : Nat) (a : Int32) : Met l yX0_square wsX0_square ({ frames := 2, cells := 0, slots := 0, locals := 46 }) (ff_P [.ref h0, .int a]) (ff_Q (gf_sqr (a &&& 255))) 0 0 ff_F := by
  refine Met.ofW (cc := cX0_square) (maxL := 2) (ret := (some .int)) (by decide) rfl ?_
  intro p e s m args below meth c s₁ B hml hv
  obtain ⟨rfl, -⟩ := hv
  have hx := B.exec
  have hb := B.bytes
  have hr := B.returns
  have hts := atoms_spec (ws := wsX0_square) B.pre
  have hts : ∀ w ∈ lw_all, w.before _ s = true := fun w h => hts w (List.mem_cons_of_mem _ h)
  have hown : s.vm.findClass RX0 = some m.cls := findClass_of_methodNamed B.named
  have hlocks := B.notSynchronized
  have hS : va_S ff_F s.heap s.heap [] := va_S.rf
  have hl := lv_entry ([.ref h0, .int a]) (n := 2) (Nat.le_of_ble_eq_true rfl)
  rw [lg_entry_eq]
  generalize (lg_sl ([.ref h0, .int a]) ++ List.replicate (2 - (lg_sl ([.ref h0, .int a])).length) Slot.unset).toArray = ls at hl ⊢
  have hl : lv_has ls 2 [(0, .ref h0), (1, .int a)] := hl
  refine lv_iload_n hx hb dX0_square_0 rfl (lv_at hl 1 rfl) ?_
  refine lv_sipush (v := 255) hx hb dX0_square_1 (by decide) ?_
  refine lv_iand hx hb dX0_square_4 ?_
  refine ff_goon (v := (gf_sqr (a &&& 255))) (rest := []) (va_runS (As := [.int (a &&& 255)]) ⟨hx, hb, hml, hown, hts⟩ (metX2_sqr l (a &&& 255)) (va_cwS 1 hts (lw_S q38 q39 q3 q40) rfl rfl rfl (by decide +kernel) ⟨Nat.le_of_ble_eq_true rfl, Nat.le_of_ble_eq_true rfl⟩) ⟨ff_blind _, fun U hU hW => ⟨rfl, trivial⟩⟩ rfl rfl hl.1 rfl (lv_room (Nat.le_of_ble_eq_true rfl)) dX0_square_5 ⟨Nat.le_of_ble_eq_true rfl, Nat.le_of_ble_eq_true rfl⟩) hS (fun H locs hk hS => ?_)
  clear hk
  exact W.iret (v := (gf_sqr (a &&& 255))) hx hb hr (fun t ht hW => ⟨⟨(gf_sqr (a &&& 255)), (), rfl, rfl, trivial⟩, hS.F ht⟩) hS.2.2 dX0_square_8
set_option maxHeartbeats 4000000 in
set_option maxRecDepth 100000 in
/-- inverse -/
theorem metX0_inverse (l : Launch) (h0 : Nat) (a : Int32) : Met l yX0_inverse wsX0_inverse ({ frames := 3, cells := 0, slots := 0, locals := 78 }) (ff_P [.ref h0, .int a]) (ff_Q (if a &&& 255 = 0 then (-1 : Int32) else gf_inv (a &&& 255))) 0 0 ff_F := by
  refine Met.ofW (cc := cX0_inverse) (maxL := 2) (ret := (some .int)) (by decide) rfl ?_
  intro p e s m args below meth c s₁ B hml hv
  obtain ⟨rfl, -⟩ := hv
  have hx := B.exec
  have hb := B.bytes
  have hr := B.returns
  have hts := atoms_spec (ws := wsX0_inverse) B.pre
  have hts : ∀ w ∈ lw_all, w.before _ s = true := fun w h => hts w (List.mem_cons_of_mem _ h)
  have hown : s.vm.findClass RX0 = some m.cls := findClass_of_methodNamed B.named
  have hlocks := B.notSynchronized
  have hS : va_S ff_F s.heap s.heap [] := va_S.rf
  have hl := lv_entry ([.ref h0, .int a]) (n := 2) (Nat.le_of_ble_eq_true rfl)
  rw [lg_entry_eq]
  generalize (lg_sl ([.ref h0, .int a]) ++ List.replicate (2 - (lg_sl ([.ref h0, .int a])).length) Slot.unset).toArray = ls at hl ⊢
  have hl : lv_has ls 2 [(0, .ref h0), (1, .int a)] := hl
  refine lv_iload_n hx hb dX0_inverse_0 rfl (lv_at hl 1 rfl) ?_
  refine lv_sipush (v := 255) hx hb dX0_inverse_1 (by decide) ?_
  refine lv_iand hx hb dX0_inverse_4 ?_
  refine lv_if_ne (tgt := 12) hx hb dX0_inverse_5 (by decide) (fun c_1 => ?_) (fun c_1 => ?_)
  · refine lv_iload_n hx hb dX0_inverse_12 rfl (lv_at hl 1 rfl) ?_
    refine lv_sipush (v := 255) hx hb dX0_inverse_13 (by decide) ?_
    refine lv_iand hx hb dX0_inverse_16 ?_
    refine ff_goon (v := (gf_inv (a &&& 255))) (rest := []) (va_runS (As := [.int (a &&& 255)]) ⟨hx, hb, hml, hown, hts⟩ (metX2_inv l (a &&& 255)) (va_cwS 1 hts (lw_S q45 q46 q3 q47) rfl rfl rfl (by decide +kernel) ⟨Nat.le_of_ble_eq_true rfl, Nat.le_of_ble_eq_true rfl⟩) ⟨ff_blind _, fun U hU hW => ⟨rfl, trivial⟩⟩ rfl rfl hl.1 rfl (lv_room (Nat.le_of_ble_eq_true rfl)) dX0_inverse_17 ⟨Nat.le_of_ble_eq_true rfl, Nat.le_of_ble_eq_true rfl⟩) hS (fun H locs hk hS => ?_)
    clear hk
    exact W.iret (v := (gf_inv (a &&& 255))) hx hb hr (fun t ht hW => ⟨⟨(gf_inv (a &&& 255)), (), rfl, (if_neg c_1).symm, trivial⟩, hS.F ht⟩) hS.2.2 dX0_inverse_20
  · refine lv_iconst (v := (-1)) hx hb dX0_inverse_8 (by decide) ?_
    refine lv_goto (tgt := 20) hx hb dX0_inverse_9 (by decide) ?_
    exact W.iret (v := (-1)) hx hb hr (fun t ht hW => ⟨⟨(-1), (), rfl, (if_pos c_1).symm, trivial⟩, hS.F ht⟩) hS.2.2 dX0_inverse_20
set_option maxHeartbeats 4000000 in
set_option maxRecDepth 100000 in
/-- divide -/
theorem metX0_divide (l : Launch) (h0 : Nat) (a b : Int32) : Met l yX0_divide wsX0_divide ({ frames := 4, cells := 0, slots := 0, locals := 99 }) (ff_P [.ref h0, .int a, .int b]) (ff_Q (if b &&& 255 = 0 then (-1 : Int32) else gf_mul (a &&& 255) (gf_inv (b &&& 255)))) 0 0 ff_F := by
  refine Met.ofW (cc := cX0_divide) (maxL := 3) (ret := (some .int)) (by decide) rfl ?_
  intro p e s m args below meth c s₁ B hml hv
  obtain ⟨rfl, -⟩ := hv
  have hx := B.exec
  have hb := B.bytes
  have hr := B.returns
  have hts := atoms_spec (ws := wsX0_divide) B.pre
  have hts : ∀ w ∈ lw_all, w.before _ s = true := fun w h => hts w (List.mem_cons_of_mem _ h)
  have hown : s.vm.findClass RX0 = some m.cls := findClass_of_methodNamed B.named
  have hlocks := B.notSynchronized
  have hS : va_S ff_F s.heap s.heap [] := va_S.rf
  have hl := lv_entry ([.ref h0, .int a, .int b]) (n := 3) (Nat.le_of_ble_eq_true rfl)
  rw [lg_entry_eq]
  generalize (lg_sl ([.ref h0, .int a, .int b]) ++ List.replicate (3 - (lg_sl ([.ref h0, .int a, .int b])).length) Slot.unset).toArray = ls at hl ⊢
  have hl : lv_has ls 3 [(0, .ref h0), (1, .int a), (2, .int b)] := hl
  refine lv_iload_n hx hb dX0_divide_0 rfl (lv_at hl 2 rfl) ?_
  refine lv_sipush (v := 255) hx hb dX0_divide_1 (by decide) ?_
  refine lv_iand hx hb dX0_divide_4 ?_
  refine lv_if_ne (tgt := 12) hx hb dX0_divide_5 (by decide) (fun c_1 => ?_) (fun c_1 => ?_)
  · refine lv_iload_n hx hb dX0_divide_12 rfl (lv_at hl 1 rfl) ?_
    refine lv_sipush (v := 255) hx hb dX0_divide_13 (by decide) ?_
    refine lv_iand hx hb dX0_divide_16 ?_
    refine lv_iload_n hx hb dX0_divide_17 rfl (lv_at hl 2 rfl) ?_
    refine lv_sipush (v := 255) hx hb dX0_divide_18 (by decide) ?_
    refine lv_iand hx hb dX0_divide_21 ?_
    refine ff_goon (v := (gf_mul (a &&& 255) (gf_inv (b &&& 255)))) (rest := []) (va_runS (As := [.int (a &&& 255), .int (b &&& 255)]) ⟨hx, hb, hml, hown, hts⟩ (metX2_div l (a &&& 255) (b &&& 255)) (va_cwS 2 hts (lw_S q53 q54 q3 q55) rfl rfl rfl (by decide +kernel) ⟨Nat.le_of_ble_eq_true rfl, Nat.le_of_ble_eq_true rfl⟩) ⟨ff_blind _, fun U hU hW => ⟨rfl, trivial⟩⟩ rfl rfl hl.1 rfl (lv_room (Nat.le_of_ble_eq_true rfl)) dX0_divide_22 ⟨Nat.le_of_ble_eq_true rfl, Nat.le_of_ble_eq_true rfl⟩) hS (fun H locs hk hS => ?_)
    clear hk
    exact W.iret (v := (gf_mul (a &&& 255) (gf_inv (b &&& 255)))) hx hb hr (fun t ht hW => ⟨⟨(gf_mul (a &&& 255) (gf_inv (b &&& 255))), (), rfl, (if_neg c_1).symm, trivial⟩, hS.F ht⟩) hS.2.2 dX0_divide_25
  · refine lv_iconst (v := (-1)) hx hb dX0_divide_8 (by decide) ?_
    refine lv_goto (tgt := 25) hx hb dX0_divide_9 (by decide) ?_
    exact W.iret (v := (-1)) hx hb hr (fun t ht hW => ⟨⟨(-1), (), rfl, (if_pos c_1).symm, trivial⟩, hS.F ht⟩) hS.2.2 dX0_divide_25
end
section
/-! THE OBJECTS: constructors, hold, fold, power -/
/-- behind a method that writes: the one cell with its field -/
abbrev ff_B (ci : Nat) (dC : Nat → ClassId) (dI : Nat → Nat → Nat) (A : Nat → Prop) (h0 : Nat) (u : Int32) (t : State) : Prop := va_P (dC, dI) vwCl [(h0, .inr (ci, [.int u]))] t.heap ∧ va_K (dC, dI) vwCl [] t ∧ va_D A [(h0, .inr (ci, [.int u]))]
set_option maxHeartbeats 4000000 in
set_option maxRecDepth 100000 in
/-- the constructor -/
theorem metX0_init (l : Launch) (dC : Nat → ClassId) (dI : Nat → Nat → Nat) (h0 sz : Nat) (f : Int32) : Met l yX0_init wsX0_init ({ frames := 1, cells := 0, slots := 0, locals := 12 }) (va_Pc [.ref h0] (fun U => U.heap.size = sz ∧ va_P (dC, dI) vwCl [(h0, .inr (0, [.int f]))] U.heap ∧ va_K (dC, dI) vwCl [] U ∧ va_D (fun _ => True) [(h0, .inr (0, [.int f]))])) (va_Qv (fun f2 : Int32 => f2 = 1) (ff_B 0 dC dI (va_A [(h0, .inr (0, [.int f]))] sz) h0) (va_A [(h0, .inr (0, [.int f]))] sz)) 0 0 (va_A [(h0, .inr (0, [.int f]))] sz) := by
  refine Met.ofW (cc := cX0_init) (maxL := 1) (ret := none) (by decide) rfl ?_
  intro p e s m args below meth c s₁ B hml hv
  obtain ⟨rfl, hsz, hP, hK, hD0⟩ := hv
  have hx := B.exec
  have hb := B.bytes
  have hr := B.returns
  have hts := atoms_spec (ws := wsX0_init) B.pre
  have hts : ∀ w ∈ lw_all, w.before _ s = true := fun w h => hts w (List.mem_cons_of_mem _ h)
  have hown : s.vm.findClass RX0 = some m.cls := findClass_of_methodNamed B.named
  have hlocks := B.notSynchronized
  subst hsz
  have hD := hD0.self (sz := s.heap.size)
  generalize hAe : va_A [(h0, .inr (0, [.int f]))] s.heap.size = A at hD ⊢
  have hA : ∀ q : Nat, s.heap.size ≤ q → A q := fun q h => by rw [← hAe]; exact Or.inr h
  have hS : va_S A s.heap s.heap [] := va_S.rf
  have hP : va_P (dC, dI) vwCl [(h0, .inr (0, [.int f]))] s.heap := hP
  have hl := lv_entry ([.ref h0]) (n := 1) (Nat.le_of_ble_eq_true rfl)
  rw [lg_entry_eq]
  generalize (lg_sl ([.ref h0]) ++ List.replicate (1 - (lg_sl ([.ref h0])).length) Slot.unset).toArray = ls at hl ⊢
  have hl : lv_has ls 1 [(0, .ref h0)] := hl
  have hin : meth.name = "<init>" := (name_of_methodNamed B.named B.method).1
  refine lv_aload_n hx hb dX0_init_0 rfl (lv_at hl 0 rfl) ?_
  refine W.objInit hx hb hown (hts _ q9) (hts _ q10) (hts _ q11) rfl (by rw [hml]; exact hl.1) rfl dX0_init_1 (Nat.le_of_ble_eq_true rfl) (Nat.le_of_ble_eq_true rfl) ?_
  refine W.eq (g2 := F0 m 4 ls []) rfl ?_
  refine lv_aload_n hx hb dX0_init_4 rfl (lv_at hl 0 rfl) ?_
  refine lv_iconst (v := 1) hx hb dX0_init_5 (by decide) ?_
  refine va_put (D := (dC, dI)) (ci := 0) (v := .int 1) (ty := .int) (C := RX0) (T := TX0) (N := 1) hx hb hts in_X0 tyX0 tyX0_ok nmX0 hown hK hP hD hS 0 rfl rfl 0 (by decide) (hts _ q12) (fun _ h9 => h9) rfl (by decide +kernel) rfl rfl (Nat.le_of_ble_eq_true rfl) dX0_init_6 (fun H locs hP hD hS => ?_)
  have hP : va_P (dC, dI) vwCl [(h0, .inr (0, [.int 1]))] H := hP
  have hD : va_D A [(h0, .inr (0, [.int 1]))] := hD
  have hP9 := hP.sub (ws' := [(h0, .inr (0, [.int 1]))]) [0] rfl
  have hD9 := hD.sub (ws' := [(h0, .inr (0, [.int 1]))]) [0] (by decide) rfl
  have hK9 := hK.sub (tys' := []) [] rfl
  exact W.vret hx hb hr (fun t ht hW => ⟨⟨1, rfl, rfl, by rw [ht]; exact hP9, va_K.moved hW.alike hK9, hD9⟩, hS.F ht⟩) hS.2.2 dX0_init_9
set_option maxHeartbeats 4000000 in
set_option maxRecDepth 100000 in
/-- hold -/
theorem metX0_hold (l : Launch) (dC : Nat → ClassId) (dI : Nat → Nat → Nat) (h0 sz : Nat) (f a : Int32) : Met l yX0_hold wsX0_hold ({ frames := 0, cells := 0, slots := 0, locals := 0 }) (va_Pc [.ref h0, .int a] (fun U => U.heap.size = sz ∧ va_P (dC, dI) vwCl [(h0, .inr (0, [.int f]))] U.heap ∧ va_K (dC, dI) vwCl [] U ∧ va_D (fun _ => True) [(h0, .inr (0, [.int f]))])) (va_Qi (fun (r f2 : Int32) => r = a &&& 255 ∧ f2 = a &&& 255) (ff_B 0 dC dI (va_A [(h0, .inr (0, [.int f]))] sz) h0) (va_A [(h0, .inr (0, [.int f]))] sz)) 0 0 (va_A [(h0, .inr (0, [.int f]))] sz) := by
  refine Met.ofW (cc := cX0_hold) (maxL := 2) (ret := (some .int)) (by decide) rfl ?_
  intro p e s m args below meth c s₁ B hml hv
  obtain ⟨rfl, hsz, hP, hK, hD0⟩ := hv
  have hx := B.exec
  have hb := B.bytes
  have hr := B.returns
  have hts := atoms_spec (ws := wsX0_hold) B.pre
  have hts : ∀ w ∈ lw_all, w.before _ s = true := fun w h => hts w (List.mem_cons_of_mem _ h)
  have hown : s.vm.findClass RX0 = some m.cls := findClass_of_methodNamed B.named
  have hlocks := B.notSynchronized
  subst hsz
  have hD := hD0.self (sz := s.heap.size)
  generalize hAe : va_A [(h0, .inr (0, [.int f]))] s.heap.size = A at hD ⊢
  have hA : ∀ q : Nat, s.heap.size ≤ q → A q := fun q h => by rw [← hAe]; exact Or.inr h
  have hS : va_S A s.heap s.heap [] := va_S.rf
  have hP : va_P (dC, dI) vwCl [(h0, .inr (0, [.int f]))] s.heap := hP
  have hl := lv_entry ([.ref h0, .int a]) (n := 2) (Nat.le_of_ble_eq_true rfl)
  rw [lg_entry_eq]
  generalize (lg_sl ([.ref h0, .int a]) ++ List.replicate (2 - (lg_sl ([.ref h0, .int a])).length) Slot.unset).toArray = ls at hl ⊢
  have hl : lv_has ls 2 [(0, .ref h0), (1, .int a)] := hl
  refine lv_aload_n hx hb dX0_hold_0 rfl (lv_at hl 0 rfl) ?_
  refine lv_iload_n hx hb dX0_hold_1 rfl (lv_at hl 1 rfl) ?_
  refine lv_sipush (v := 255) hx hb dX0_hold_2 (by decide) ?_
  refine lv_iand hx hb dX0_hold_5 ?_
  refine va_put (D := (dC, dI)) (ci := 0) (v := .int (a &&& 255)) (ty := .int) (C := RX0) (T := TX0) (N := 1) hx hb hts in_X0 tyX0 tyX0_ok nmX0 hown hK hP hD hS 0 rfl rfl 0 (by decide) (hts _ q12) (fun _ h9 => h9) rfl (by decide +kernel) rfl rfl (Nat.le_of_ble_eq_true rfl) dX0_hold_6 (fun H locs hP hD hS => ?_)
  have hP : va_P (dC, dI) vwCl [(h0, .inr (0, [.int (a &&& 255)]))] H := hP
  have hD : va_D A [(h0, .inr (0, [.int (a &&& 255)]))] := hD
  refine lv_aload_n hx hb dX0_hold_9 rfl (lv_at hl 0 rfl) ?_
  refine va_get (D := (dC, dI)) (ci := 0) (v := .int (a &&& 255)) (C := RX0) (T := TX0) (N := 1) hx hb hts in_X0 hown hK hP 0 rfl rfl 0 (by decide) (hts _ q12) (fun _ h9 => h9) rfl dX0_hold_10 ?_
  have hP9 := hP.sub (ws' := [(h0, .inr (0, [.int (a &&& 255)]))]) [0] rfl
  have hD9 := hD.sub (ws' := [(h0, .inr (0, [.int (a &&& 255)]))]) [0] (by decide) rfl
  have hK9 := hK.sub (tys' := []) [] rfl
  exact W.iret (v := (a &&& 255)) hx hb hr (fun t ht hW => ⟨⟨(a &&& 255), (a &&& 255), rfl, ⟨rfl, rfl⟩, by rw [ht]; exact hP9, va_K.moved hW.alike hK9, hD9⟩, hS.F ht⟩) hS.2.2 dX0_hold_13
set_option maxHeartbeats 4000000 in
set_option maxRecDepth 100000 in
/-- fold -/
theorem metX0_fold (l : Launch) (dC : Nat → ClassId) (dI : Nat → Nat → Nat) (h0 sz : Nat) (f a b : Int32) : Met l yX0_fold wsX0_fold ({ frames := 2, cells := 0, slots := 0, locals := 46 }) (va_Pc [.ref h0, .int a, .int b] (fun U => U.heap.size = sz ∧ va_P (dC, dI) vwCl [(h0, .inr (0, [.int f]))] U.heap ∧ va_K (dC, dI) vwCl [] U ∧ va_D (fun _ => True) [(h0, .inr (0, [.int f]))])) (va_Qi (fun (r f2 : Int32) => r = gf_mul f (a &&& 255) ^^^ (b &&& 255) ∧ f2 = gf_mul f (a &&& 255) ^^^ (b &&& 255)) (ff_B 0 dC dI (va_A [(h0, .inr (0, [.int f]))] sz) h0) (va_A [(h0, .inr (0, [.int f]))] sz)) 0 0 (va_A [(h0, .inr (0, [.int f]))] sz) := by
  refine Met.ofW (cc := cX0_fold) (maxL := 3) (ret := (some .int)) (by decide) rfl ?_
  intro p e s m args below meth c s₁ B hml hv
  obtain ⟨rfl, hsz, hP, hK, hD0⟩ := hv
  have hx := B.exec
  have hb := B.bytes
  have hr := B.returns
  have hts := atoms_spec (ws := wsX0_fold) B.pre
  have hts : ∀ w ∈ lw_all, w.before _ s = true := fun w h => hts w (List.mem_cons_of_mem _ h)
  have hown : s.vm.findClass RX0 = some m.cls := findClass_of_methodNamed B.named
  have hlocks := B.notSynchronized
  subst hsz
  have hD := hD0.self (sz := s.heap.size)
  generalize hAe : va_A [(h0, .inr (0, [.int f]))] s.heap.size = A at hD ⊢
  have hA : ∀ q : Nat, s.heap.size ≤ q → A q := fun q h => by rw [← hAe]; exact Or.inr h
  have hS : va_S A s.heap s.heap [] := va_S.rf
  have hP : va_P (dC, dI) vwCl [(h0, .inr (0, [.int f]))] s.heap := hP
  have hl := lv_entry ([.ref h0, .int a, .int b]) (n := 3) (Nat.le_of_ble_eq_true rfl)
  rw [lg_entry_eq]
  generalize (lg_sl ([.ref h0, .int a, .int b]) ++ List.replicate (3 - (lg_sl ([.ref h0, .int a, .int b])).length) Slot.unset).toArray = ls at hl ⊢
  have hl : lv_has ls 3 [(0, .ref h0), (1, .int a), (2, .int b)] := hl
  refine lv_aload_n hx hb dX0_fold_0 rfl (lv_at hl 0 rfl) ?_
  refine lv_aload_n hx hb dX0_fold_1 rfl (lv_at hl 0 rfl) ?_
  refine va_get (D := (dC, dI)) (ci := 0) (v := .int f) (C := RX0) (T := TX0) (N := 1) hx hb hts in_X0 hown hK hP 0 rfl rfl 0 (by decide) (hts _ q12) (fun _ h9 => h9) rfl dX0_fold_2 ?_
  refine lv_iload_n hx hb dX0_fold_5 rfl (lv_at hl 1 rfl) ?_
  refine lv_sipush (v := 255) hx hb dX0_fold_6 (by decide) ?_
  refine lv_iand hx hb dX0_fold_9 ?_
  refine ff_goon (v := (gf_mul f (a &&& 255))) (rest := [.ref h0]) (va_runS (As := [.int f, .int (a &&& 255)]) ⟨hx, hb, hml, hown, hts⟩ (metX2_mul l f (a &&& 255)) (va_cwS 2 hts (lw_S q20 q21 q3 q22) rfl rfl rfl (by decide +kernel) ⟨Nat.le_of_ble_eq_true rfl, Nat.le_of_ble_eq_true rfl⟩) ⟨ff_blind _, fun U hU hW => ⟨rfl, trivial⟩⟩ rfl rfl hl.1 rfl (lv_room (Nat.le_of_ble_eq_true rfl)) dX0_fold_10 ⟨Nat.le_of_ble_eq_true rfl, Nat.le_of_ble_eq_true rfl⟩) hS (fun H locs hk hS => ?_)
  have hP := ff_keep hP hk
  clear hk
  refine lv_iload_n hx hb dX0_fold_13 rfl (lv_at hl 2 rfl) ?_
  refine lv_sipush (v := 255) hx hb dX0_fold_14 (by decide) ?_
  refine lv_iand hx hb dX0_fold_17 ?_
  refine lv_ixor hx hb dX0_fold_18 ?_
  refine lv_topi (fun y_1 ey_1 => ?_)
  refine va_put (D := (dC, dI)) (ci := 0) (v := .int y_1) (ty := .int) (C := RX0) (T := TX0) (N := 1) hx hb hts in_X0 tyX0 tyX0_ok nmX0 hown hK hP hD hS 0 rfl rfl 0 (by decide) (hts _ q12) (fun _ h9 => h9) rfl (by decide +kernel) rfl rfl (Nat.le_of_ble_eq_true rfl) dX0_fold_19 (fun H locs hP hD hS => ?_)
  have hP : va_P (dC, dI) vwCl [(h0, .inr (0, [.int y_1]))] H := hP
  have hD : va_D A [(h0, .inr (0, [.int y_1]))] := hD
  refine lv_aload_n hx hb dX0_fold_22 rfl (lv_at hl 0 rfl) ?_
  refine va_get (D := (dC, dI)) (ci := 0) (v := .int y_1) (C := RX0) (T := TX0) (N := 1) hx hb hts in_X0 hown hK hP 0 rfl rfl 0 (by decide) (hts _ q12) (fun _ h9 => h9) rfl dX0_fold_23 ?_
  have hP9 := hP.sub (ws' := [(h0, .inr (0, [.int y_1]))]) [0] rfl
  have hD9 := hD.sub (ws' := [(h0, .inr (0, [.int y_1]))]) [0] (by decide) rfl
  have hK9 := hK.sub (tys' := []) [] rfl
  exact W.iret (v := y_1) hx hb hr (fun t ht hW => ⟨⟨y_1, y_1, rfl, ⟨ey_1, ey_1⟩, by rw [ht]; exact hP9, va_K.moved hW.alike hK9, hD9⟩, hS.F ht⟩) hS.2.2 dX0_fold_26
set_option maxHeartbeats 4000000 in
set_option maxRecDepth 100000 in
/-- the constructor -/
theorem metX1_init (l : Launch) (dC : Nat → ClassId) (dI : Nat → Nat → Nat) (h0 sz : Nat) (f : Int32) : Met l yX1_init wsX1_init ({ frames := 1, cells := 0, slots := 0, locals := 12 }) (va_Pc [.ref h0] (fun U => U.heap.size = sz ∧ va_P (dC, dI) vwCl [(h0, .inr (1, [.int f]))] U.heap ∧ va_K (dC, dI) vwCl [] U ∧ va_D (fun _ => True) [(h0, .inr (1, [.int f]))])) (va_Qv (fun f2 : Int32 => f2 = 1) (ff_B 1 dC dI (va_A [(h0, .inr (1, [.int f]))] sz) h0) (va_A [(h0, .inr (1, [.int f]))] sz)) 0 0 (va_A [(h0, .inr (1, [.int f]))] sz) := by
  refine Met.ofW (cc := cX1_init) (maxL := 1) (ret := none) (by decide) rfl ?_
  intro p e s m args below meth c s₁ B hml hv
  obtain ⟨rfl, hsz, hP, hK, hD0⟩ := hv
  have hx := B.exec
  have hb := B.bytes
  have hr := B.returns
  have hts := atoms_spec (ws := wsX1_init) B.pre
  have hts : ∀ w ∈ lw_all, w.before _ s = true := fun w h => hts w (List.mem_cons_of_mem _ h)
  have hown : s.vm.findClass RX1 = some m.cls := findClass_of_methodNamed B.named
  have hlocks := B.notSynchronized
  subst hsz
  have hD := hD0.self (sz := s.heap.size)
  generalize hAe : va_A [(h0, .inr (1, [.int f]))] s.heap.size = A at hD ⊢
  have hA : ∀ q : Nat, s.heap.size ≤ q → A q := fun q h => by rw [← hAe]; exact Or.inr h
  have hS : va_S A s.heap s.heap [] := va_S.rf
  have hP : va_P (dC, dI) vwCl [(h0, .inr (1, [.int f]))] s.heap := hP
  have hl := lv_entry ([.ref h0]) (n := 1) (Nat.le_of_ble_eq_true rfl)
  rw [lg_entry_eq]
  generalize (lg_sl ([.ref h0]) ++ List.replicate (1 - (lg_sl ([.ref h0])).length) Slot.unset).toArray = ls at hl ⊢
  have hl : lv_has ls 1 [(0, .ref h0)] := hl
  have hin : meth.name = "<init>" := (name_of_methodNamed B.named B.method).1
  refine lv_aload_n hx hb dX1_init_0 rfl (lv_at hl 0 rfl) ?_
  refine W.objInit hx hb hown (hts _ q74) (hts _ q10) (hts _ q11) rfl (by rw [hml]; exact hl.1) rfl dX1_init_1 (Nat.le_of_ble_eq_true rfl) (Nat.le_of_ble_eq_true rfl) ?_
  refine W.eq (g2 := F0 m 4 ls []) rfl ?_
  refine lv_aload_n hx hb dX1_init_4 rfl (lv_at hl 0 rfl) ?_
  refine lv_iconst (v := 1) hx hb dX1_init_5 (by decide) ?_
  refine va_put (D := (dC, dI)) (ci := 1) (v := .int 1) (ty := .int) (C := RX1) (T := TX1) (N := 1) hx hb hts in_X1 tyX1 tyX1_ok nmX1 hown hK hP hD hS 0 rfl rfl 0 (by decide) (hts _ q75) (fun _ h9 => h9) rfl (by decide +kernel) rfl rfl (Nat.le_of_ble_eq_true rfl) dX1_init_6 (fun H locs hP hD hS => ?_)
  have hP : va_P (dC, dI) vwCl [(h0, .inr (1, [.int 1]))] H := hP
  have hD : va_D A [(h0, .inr (1, [.int 1]))] := hD
  have hP9 := hP.sub (ws' := [(h0, .inr (1, [.int 1]))]) [0] rfl
  have hD9 := hD.sub (ws' := [(h0, .inr (1, [.int 1]))]) [0] (by decide) rfl
  have hK9 := hK.sub (tys' := []) [] rfl
  exact W.vret hx hb hr (fun t ht hW => ⟨⟨1, rfl, rfl, by rw [ht]; exact hP9, va_K.moved hW.alike hK9, hD9⟩, hS.F ht⟩) hS.2.2 dX1_init_9
set_option maxHeartbeats 4000000 in
set_option maxRecDepth 100000 in
/-- hold -/
theorem metX1_hold (l : Launch) (dC : Nat → ClassId) (dI : Nat → Nat → Nat) (h0 sz : Nat) (f a : Int32) : Met l yX1_hold wsX1_hold ({ frames := 0, cells := 0, slots := 0, locals := 0 }) (va_Pc [.ref h0, .int a] (fun U => U.heap.size = sz ∧ va_P (dC, dI) vwCl [(h0, .inr (1, [.int f]))] U.heap ∧ va_K (dC, dI) vwCl [] U ∧ va_D (fun _ => True) [(h0, .inr (1, [.int f]))])) (va_Qi (fun (r f2 : Int32) => r = a &&& 255 ∧ f2 = a &&& 255) (ff_B 1 dC dI (va_A [(h0, .inr (1, [.int f]))] sz) h0) (va_A [(h0, .inr (1, [.int f]))] sz)) 0 0 (va_A [(h0, .inr (1, [.int f]))] sz) := by
  refine Met.ofW (cc := cX1_hold) (maxL := 2) (ret := (some .int)) (by decide) rfl ?_
  intro p e s m args below meth c s₁ B hml hv
  obtain ⟨rfl, hsz, hP, hK, hD0⟩ := hv
  have hx := B.exec
  have hb := B.bytes
  have hr := B.returns
  have hts := atoms_spec (ws := wsX1_hold) B.pre
  have hts : ∀ w ∈ lw_all, w.before _ s = true := fun w h => hts w (List.mem_cons_of_mem _ h)
  have hown : s.vm.findClass RX1 = some m.cls := findClass_of_methodNamed B.named
  have hlocks := B.notSynchronized
  subst hsz
  have hD := hD0.self (sz := s.heap.size)
  generalize hAe : va_A [(h0, .inr (1, [.int f]))] s.heap.size = A at hD ⊢
  have hA : ∀ q : Nat, s.heap.size ≤ q → A q := fun q h => by rw [← hAe]; exact Or.inr h
  have hS : va_S A s.heap s.heap [] := va_S.rf
  have hP : va_P (dC, dI) vwCl [(h0, .inr (1, [.int f]))] s.heap := hP
  have hl := lv_entry ([.ref h0, .int a]) (n := 2) (Nat.le_of_ble_eq_true rfl)
  rw [lg_entry_eq]
  generalize (lg_sl ([.ref h0, .int a]) ++ List.replicate (2 - (lg_sl ([.ref h0, .int a])).length) Slot.unset).toArray = ls at hl ⊢
  have hl : lv_has ls 2 [(0, .ref h0), (1, .int a)] := hl
  refine lv_aload_n hx hb dX1_hold_0 rfl (lv_at hl 0 rfl) ?_
  refine lv_iload_n hx hb dX1_hold_1 rfl (lv_at hl 1 rfl) ?_
  refine lv_sipush (v := 255) hx hb dX1_hold_2 (by decide) ?_
  refine lv_iand hx hb dX1_hold_5 ?_
  refine va_put (D := (dC, dI)) (ci := 1) (v := .int (a &&& 255)) (ty := .int) (C := RX1) (T := TX1) (N := 1) hx hb hts in_X1 tyX1 tyX1_ok nmX1 hown hK hP hD hS 0 rfl rfl 0 (by decide) (hts _ q75) (fun _ h9 => h9) rfl (by decide +kernel) rfl rfl (Nat.le_of_ble_eq_true rfl) dX1_hold_6 (fun H locs hP hD hS => ?_)
  have hP : va_P (dC, dI) vwCl [(h0, .inr (1, [.int (a &&& 255)]))] H := hP
  have hD : va_D A [(h0, .inr (1, [.int (a &&& 255)]))] := hD
  refine lv_aload_n hx hb dX1_hold_9 rfl (lv_at hl 0 rfl) ?_
  refine va_get (D := (dC, dI)) (ci := 1) (v := .int (a &&& 255)) (C := RX1) (T := TX1) (N := 1) hx hb hts in_X1 hown hK hP 0 rfl rfl 0 (by decide) (hts _ q75) (fun _ h9 => h9) rfl dX1_hold_10 ?_
  have hP9 := hP.sub (ws' := [(h0, .inr (1, [.int (a &&& 255)]))]) [0] rfl
  have hD9 := hD.sub (ws' := [(h0, .inr (1, [.int (a &&& 255)]))]) [0] (by decide) rfl
  have hK9 := hK.sub (tys' := []) [] rfl
  exact W.iret (v := (a &&& 255)) hx hb hr (fun t ht hW => ⟨⟨(a &&& 255), (a &&& 255), rfl, ⟨rfl, rfl⟩, by rw [ht]; exact hP9, va_K.moved hW.alike hK9, hD9⟩, hS.F ht⟩) hS.2.2 dX1_hold_13
set_option maxHeartbeats 4000000 in
set_option maxRecDepth 100000 in
/-- fold -/
theorem metX1_fold (l : Launch) (dC : Nat → ClassId) (dI : Nat → Nat → Nat) (h0 sz : Nat) (f a b : Int32) : Met l yX1_fold wsX1_fold ({ frames := 1, cells := 0, slots := 0, locals := 23 }) (va_Pc [.ref h0, .int a, .int b] (fun U => U.heap.size = sz ∧ va_P (dC, dI) vwCl [(h0, .inr (1, [.int f]))] U.heap ∧ va_K (dC, dI) vwCl [] U ∧ va_D (fun _ => True) [(h0, .inr (1, [.int f]))])) (va_Qi (fun (r f2 : Int32) => r = mp_prod f (a &&& 255) ^^^ (b &&& 255) ∧ f2 = mp_prod f (a &&& 255) ^^^ (b &&& 255)) (ff_B 1 dC dI (va_A [(h0, .inr (1, [.int f]))] sz) h0) (va_A [(h0, .inr (1, [.int f]))] sz)) 0 0 (va_A [(h0, .inr (1, [.int f]))] sz) := by
  refine Met.ofW (cc := cX1_fold) (maxL := 3) (ret := (some .int)) (by decide) rfl ?_
  intro p e s m args below meth c s₁ B hml hv
  obtain ⟨rfl, hsz, hP, hK, hD0⟩ := hv
  have hx := B.exec
  have hb := B.bytes
  have hr := B.returns
  have hts := atoms_spec (ws := wsX1_fold) B.pre
  have hts : ∀ w ∈ lw_all, w.before _ s = true := fun w h => hts w (List.mem_cons_of_mem _ h)
  have hown : s.vm.findClass RX1 = some m.cls := findClass_of_methodNamed B.named
  have hlocks := B.notSynchronized
  subst hsz
  have hD := hD0.self (sz := s.heap.size)
  generalize hAe : va_A [(h0, .inr (1, [.int f]))] s.heap.size = A at hD ⊢
  have hA : ∀ q : Nat, s.heap.size ≤ q → A q := fun q h => by rw [← hAe]; exact Or.inr h
  have hS : va_S A s.heap s.heap [] := va_S.rf
  have hP : va_P (dC, dI) vwCl [(h0, .inr (1, [.int f]))] s.heap := hP
  have hl := lv_entry ([.ref h0, .int a, .int b]) (n := 3) (Nat.le_of_ble_eq_true rfl)
  rw [lg_entry_eq]
  generalize (lg_sl ([.ref h0, .int a, .int b]) ++ List.replicate (3 - (lg_sl ([.ref h0, .int a, .int b])).length) Slot.unset).toArray = ls at hl ⊢
  have hl : lv_has ls 3 [(0, .ref h0), (1, .int a), (2, .int b)] := hl
  refine lv_aload_n hx hb dX1_fold_0 rfl (lv_at hl 0 rfl) ?_
  refine lv_aload_n hx hb dX1_fold_1 rfl (lv_at hl 0 rfl) ?_
  refine va_get (D := (dC, dI)) (ci := 1) (v := .int f) (C := RX1) (T := TX1) (N := 1) hx hb hts in_X1 hown hK hP 0 rfl rfl 0 (by decide) (hts _ q75) (fun _ h9 => h9) rfl dX1_fold_2 ?_
  refine lv_iload_n hx hb dX1_fold_5 rfl (lv_at hl 1 rfl) ?_
  refine lv_sipush (v := 255) hx hb dX1_fold_6 (by decide) ?_
  refine lv_iand hx hb dX1_fold_9 ?_
  refine ff_goon (v := (mp_prod f (a &&& 255))) (rest := [.ref h0]) (va_runS (As := [.int f, .int (a &&& 255)]) ⟨hx, hb, hml, hown, hts⟩ (metX1_product l f (a &&& 255)) (va_cwS 2 hts (lw_S q83 q84 q2 q85) rfl rfl rfl (by decide +kernel) ⟨Nat.le_of_ble_eq_true rfl, Nat.le_of_ble_eq_true rfl⟩) ⟨ff_blind _, fun U hU hW => ⟨rfl, trivial⟩⟩ rfl rfl hl.1 rfl (lv_room (Nat.le_of_ble_eq_true rfl)) dX1_fold_10 ⟨Nat.le_of_ble_eq_true rfl, Nat.le_of_ble_eq_true rfl⟩) hS (fun H locs hk hS => ?_)
  have hP := ff_keep hP hk
  clear hk
  refine lv_iload_n hx hb dX1_fold_13 rfl (lv_at hl 2 rfl) ?_
  refine lv_sipush (v := 255) hx hb dX1_fold_14 (by decide) ?_
  refine lv_iand hx hb dX1_fold_17 ?_
  refine lv_ixor hx hb dX1_fold_18 ?_
  refine lv_topi (fun y_1 ey_1 => ?_)
  refine va_put (D := (dC, dI)) (ci := 1) (v := .int y_1) (ty := .int) (C := RX1) (T := TX1) (N := 1) hx hb hts in_X1 tyX1 tyX1_ok nmX1 hown hK hP hD hS 0 rfl rfl 0 (by decide) (hts _ q75) (fun _ h9 => h9) rfl (by decide +kernel) rfl rfl (Nat.le_of_ble_eq_true rfl) dX1_fold_19 (fun H locs hP hD hS => ?_)
  have hP : va_P (dC, dI) vwCl [(h0, .inr (1, [.int y_1]))] H := hP
  have hD : va_D A [(h0, .inr (1, [.int y_1]))] := hD
  refine lv_aload_n hx hb dX1_fold_22 rfl (lv_at hl 0 rfl) ?_
  refine va_get (D := (dC, dI)) (ci := 1) (v := .int y_1) (C := RX1) (T := TX1) (N := 1) hx hb hts in_X1 hown hK hP 0 rfl rfl 0 (by decide) (hts _ q75) (fun _ h9 => h9) rfl dX1_fold_23 ?_
  have hP9 := hP.sub (ws' := [(h0, .inr (1, [.int y_1]))]) [0] rfl
  have hD9 := hD.sub (ws' := [(h0, .inr (1, [.int y_1]))]) [0] (by decide) rfl
  have hK9 := hK.sub (tys' := []) [] rfl
  exact W.iret (v := y_1) hx hb hr (fun t ht hW => ⟨⟨y_1, y_1, rfl, ⟨ey_1, ey_1⟩, by rw [ht]; exact hP9, va_K.moved hW.alike hK9, hD9⟩, hS.F ht⟩) hS.2.2 dX1_fold_26
set_option maxHeartbeats 4000000 in
set_option maxRecDepth 100000 in
/-- power by squares -/
theorem metX0_power (l : Launch) (dC : Nat → ClassId) (dI : Nat → Nat → Nat) (h0 : Nat) (h n : Int32) (N : Nat) (hN : N < 256) (eN : n &&& 255 = nI N) : Met l yX0_power wsX0_power ({ frames := 2, cells := 0, slots := 0, locals := 46 }) (va_Pc [.ref h0, .int n] (fun U => va_P (dC, dI) vwCl [(h0, .inr (0, [.int h]))] U.heap ∧ va_K (dC, dI) vwCl [] U)) (ff_Q (bf_pl 8 N 1 h)) 0 0 ff_F := by
  refine Met.ofW (cc := cX0_power) (maxL := 5) (ret := (some .int)) (by decide) rfl ?_
  intro p e s m args below meth c s₁ B hml hv
  obtain ⟨rfl, hP, hK⟩ := hv
  have hx := B.exec
  have hb := B.bytes
  have hr := B.returns
  have hts := atoms_spec (ws := wsX0_power) B.pre
  have hts : ∀ w ∈ lw_all, w.before _ s = true := fun w h => hts w (List.mem_cons_of_mem _ h)
  have hown : s.vm.findClass RX0 = some m.cls := findClass_of_methodNamed B.named
  have hlocks := B.notSynchronized
  have hS : va_S ff_F s.heap s.heap [] := va_S.rf
  have hl := lv_entry ([.ref h0, .int n]) (n := 5) (Nat.le_of_ble_eq_true rfl)
  rw [lg_entry_eq]
  generalize (lg_sl ([.ref h0, .int n]) ++ List.replicate (5 - (lg_sl ([.ref h0, .int n])).length) Slot.unset).toArray = ls at hl ⊢
  have hl : lv_has ls 5 [(0, .ref h0), (1, .int n)] := hl
  have lp : ∀ (f k : Nat) (zz xx : Int32) (H : Heap) (locs : List Loc) (ls : Array Slot), k < 2 ^ f → f ≤ 8 → bf_pl f k zz xx = bf_pl 8 N 1 h → va_S ff_F s.heap H locs → lv_has ls 5 [(2, .int zz), (3, .int xx), (4, .int (nI k))] → W p l e (headSpec wsX0_power ({ frames := 2, cells := 0, slots := 0, locals := 46 })).room s m ([.ref h0, .int n] : List Value).toArray below meth c H locs 0 0 (MQ below (ff_Q (bf_pl 8 N 1 h)) ([.ref h0, .int n] : List Value).toArray s 0 0 ff_F) (F0 m 14 ls []) := by
    intro f
    induction f with
    | zero =>
      intro k zz xx H locs ls hk hf hv hS hl
      have hk0 : k = 0 := Nat.lt_one_iff.mp hk
      subst hk0
      refine lv_iload hx hb dX0_power_14 (lv_at hl 2 rfl) ?_
      refine lv_if_le (tgt := 47) hx hb dX0_power_16 (by decide) (fun c_1 => ?_) (fun c_1 => ?_)
      · refine lv_iload_n hx hb dX0_power_47 rfl (lv_at hl 0 rfl) ?_
        exact W.iret (v := zz) hx hb hr (fun t ht hW => ⟨⟨zz, (), rfl, hv, trivial⟩, hS.F ht⟩) hS.2.2 dX0_power_48
      · exact absurd (by decide) c_1
    | succ f ih =>
      intro k zz xx H locs ls hk hf hv hS hl
      have hk8 : k < 2 ^ 8 := Nat.lt_of_lt_of_le hk (Nat.pow_le_pow_right (by decide) hf)
      have hk9 : k / 2 < 2 ^ f := by
        have h9 : 2 ^ (f + 1) = 2 * 2 ^ f := by rw [Nat.pow_succ, Nat.mul_comm]
        omega
      refine lv_iload hx hb dX0_power_14 (lv_at hl 2 rfl) ?_
      refine lv_if_le (tgt := 47) hx hb dX0_power_16 (by decide) (fun c_1 => ?_) (fun c_1 => ?_)
      · have hk0 : k = 0 := by
          rcases Nat.eq_zero_or_pos k with q | q
          · exact q
          · exact absurd c_1 (nI_nle q (by omega))
        refine lv_iload_n hx hb dX0_power_47 rfl (lv_at hl 0 rfl) ?_
        exact W.iret (v := zz) hx hb hr (fun t ht hW => ⟨⟨zz, (), rfl, (by rw [← hv]; exact (if_pos hk0).symm), trivial⟩, hS.F ht⟩) hS.2.2 dX0_power_48
      · have hk0 : ¬ k = 0 := fun q => c_1 (by rw [q]; decide)
        have hs : bf_pl (f + 1) k zz xx = bf_pl f (k / 2) (if k % 2 = 1 then gf_mul zz xx else zz) (gf_sqr xx) := if_neg hk0
        rw [hs] at hv
        have hb1 : nI k &&& 1 = nI (k % 2) := ff_and1 (by omega)
        refine lv_iload hx hb dX0_power_19 (lv_at hl 2 rfl) ?_
        refine lv_iconst (v := 1) hx hb dX0_power_21 (by decide) ?_
        refine lv_iand hx hb dX0_power_22 ?_
        refine lv_iconst (v := 1) hx hb dX0_power_23 (by decide) ?_
        refine lv_icmp_ne (tgt := 33) hx hb dX0_power_24 (by decide) (fun c_2 => ?_) (fun c_2 => ?_)
        · rw [if_neg (fun q => c_2 (by rw [hb1, q]; rfl))] at hv
          refine lv_iload_n hx hb dX0_power_33 rfl (lv_at hl 1 rfl) ?_
          refine ff_goon (v := (gf_sqr xx)) (rest := []) (va_runS (As := [.int xx]) ⟨hx, hb, hml, hown, hts⟩ (metX2_sqr l xx) (va_cwS 1 hts (lw_S q38 q39 q3 q40) rfl rfl rfl (by decide +kernel) ⟨Nat.le_of_ble_eq_true rfl, Nat.le_of_ble_eq_true rfl⟩) ⟨ff_blind _, fun U hU hW => ⟨rfl, trivial⟩⟩ rfl rfl hl.1 rfl (lv_room (Nat.le_of_ble_eq_true rfl)) dX0_power_34 ⟨Nat.le_of_ble_eq_true rfl, Nat.le_of_ble_eq_true rfl⟩) hS (fun H locs hk hS => ?_)
          clear hk
          refine lv_istore_n (lv' := [(3, .int (gf_sqr xx)), (2, .int zz), (4, .int (nI k))]) hx hb dX0_power_37 rfl hl (by decide) rfl (fun ls hl => ?_)
          refine lv_iload hx hb dX0_power_38 (lv_at hl 2 rfl) ?_
          refine lv_iconst (v := 1) hx hb dX0_power_40 (by decide) ?_
          refine lv_ishr hx hb dX0_power_41 ?_
          refine lv_topi (fun y_1 ey_1 => ?_)
          have ek : y_1 = nI (k / 2) := by rw [ey_1]; exact ff_shr (b := k) (i := 1) (by omega) (by decide)
          clear ey_1
          subst ek
          refine lv_istore (lv' := [(4, .int (nI (k / 2))), (3, .int (gf_sqr xx)), (2, .int zz)]) hx hb dX0_power_42 hl (by decide) rfl (fun ls hl => ?_)
          refine lv_goto (tgt := 14) hx hb dX0_power_44 (by decide) ?_
          exact ih (k / 2) zz (gf_sqr xx) _ _ ls hk9 (by omega) hv hS (lv_sub hl [2, 1, 0] rfl)
        · rw [if_pos ((nI_eq (a := k % 2) (b := 1) (by omega) (by decide)).mp (hb1.symm.trans c_2))] at hv
          refine lv_iload_n hx hb dX0_power_27 rfl (lv_at hl 0 rfl) ?_
          refine lv_iload_n hx hb dX0_power_28 rfl (lv_at hl 1 rfl) ?_
          refine ff_goon (v := (gf_mul zz xx)) (rest := []) (va_runS (As := [.int zz, .int xx]) ⟨hx, hb, hml, hown, hts⟩ (metX2_mul l zz xx) (va_cwS 2 hts (lw_S q20 q21 q3 q22) rfl rfl rfl (by decide +kernel) ⟨Nat.le_of_ble_eq_true rfl, Nat.le_of_ble_eq_true rfl⟩) ⟨ff_blind _, fun U hU hW => ⟨rfl, trivial⟩⟩ rfl rfl hl.1 rfl (lv_room (Nat.le_of_ble_eq_true rfl)) dX0_power_29 ⟨Nat.le_of_ble_eq_true rfl, Nat.le_of_ble_eq_true rfl⟩) hS (fun H locs hk hS => ?_)
          clear hk
          refine lv_istore_n (lv' := [(2, .int (gf_mul zz xx)), (3, .int xx), (4, .int (nI k))]) hx hb dX0_power_32 rfl hl (by decide) rfl (fun ls hl => ?_)
          refine lv_iload_n hx hb dX0_power_33 rfl (lv_at hl 1 rfl) ?_
          refine ff_goon (v := (gf_sqr xx)) (rest := []) (va_runS (As := [.int xx]) ⟨hx, hb, hml, hown, hts⟩ (metX2_sqr l xx) (va_cwS 1 hts (lw_S q38 q39 q3 q40) rfl rfl rfl (by decide +kernel) ⟨Nat.le_of_ble_eq_true rfl, Nat.le_of_ble_eq_true rfl⟩) ⟨ff_blind _, fun U hU hW => ⟨rfl, trivial⟩⟩ rfl rfl hl.1 rfl (lv_room (Nat.le_of_ble_eq_true rfl)) dX0_power_34 ⟨Nat.le_of_ble_eq_true rfl, Nat.le_of_ble_eq_true rfl⟩) hS (fun H locs hk hS => ?_)
          clear hk
          refine lv_istore_n (lv' := [(3, .int (gf_sqr xx)), (2, .int (gf_mul zz xx)), (4, .int (nI k))]) hx hb dX0_power_37 rfl hl (by decide) rfl (fun ls hl => ?_)
          refine lv_iload hx hb dX0_power_38 (lv_at hl 2 rfl) ?_
          refine lv_iconst (v := 1) hx hb dX0_power_40 (by decide) ?_
          refine lv_ishr hx hb dX0_power_41 ?_
          refine lv_topi (fun y_2 ey_2 => ?_)
          have ek : y_2 = nI (k / 2) := by rw [ey_2]; exact ff_shr (b := k) (i := 1) (by omega) (by decide)
          clear ey_2
          subst ek
          refine lv_istore (lv' := [(4, .int (nI (k / 2))), (3, .int (gf_sqr xx)), (2, .int (gf_mul zz xx))]) hx hb dX0_power_42 hl (by decide) rfl (fun ls hl => ?_)
          refine lv_goto (tgt := 14) hx hb dX0_power_44 (by decide) ?_
          exact ih (k / 2) (gf_mul zz xx) (gf_sqr xx) _ _ ls hk9 (by omega) hv hS (lv_sub hl [2, 1, 0] rfl)
  refine lv_iconst (v := 1) hx hb dX0_power_0 (by decide) ?_
  refine lv_istore_n (lv' := [(2, .int 1), (0, .ref h0), (1, .int n)]) hx hb dX0_power_1 rfl hl (by decide) rfl (fun ls hl => ?_)
  refine lv_aload_n hx hb dX0_power_2 rfl (lv_at hl 1 rfl) ?_
  refine va_get (D := (dC, dI)) (ci := 0) (v := .int h) (C := RX0) (T := TX0) (N := 1) hx hb hts in_X0 hown hK hP 0 rfl rfl 0 (by decide) (hts _ q12) (fun _ h9 => h9) rfl dX0_power_3 ?_
  refine lv_istore_n (lv' := [(3, .int h), (2, .int 1), (0, .ref h0), (1, .int n)]) hx hb dX0_power_6 rfl hl (by decide) rfl (fun ls hl => ?_)
  refine lv_iload_n hx hb dX0_power_7 rfl (lv_at hl 3 rfl) ?_
  refine lv_sipush (v := 255) hx hb dX0_power_8 (by decide) ?_
  refine lv_iand hx hb dX0_power_11 ?_
  refine lv_topi (fun y_3 ey_3 => ?_)
  rw [eN] at ey_3
  subst ey_3
  refine lv_istore (lv' := [(4, .int (nI N)), (3, .int h), (2, .int 1), (0, .ref h0), (1, .int n)]) hx hb dX0_power_12 hl (by decide) rfl (fun ls hl => ?_)
  exact lp 8 N 1 h s.heap [] ls hN (by omega) rfl hS (lv_sub hl [2, 1, 0] rfl)
set_option maxHeartbeats 4000000 in
set_option maxRecDepth 100000 in
/-- power by products -/
theorem metX1_power (l : Launch) (dC : Nat → ClassId) (dI : Nat → Nat → Nat) (h0 : Nat) (h n : Int32) (N : Nat) (hN : N < 256) (eN : n &&& 255 = nI N) : Met l yX1_power wsX1_power ({ frames := 1, cells := 0, slots := 0, locals := 23 }) (va_Pc [.ref h0, .int n] (fun U => va_P (dC, dI) vwCl [(h0, .inr (1, [.int h]))] U.heap ∧ va_K (dC, dI) vwCl [] U)) (ff_Q (mp_pl h N 1)) 0 0 ff_F := by
  refine Met.ofW (cc := cX1_power) (maxL := 4) (ret := (some .int)) (by decide) rfl ?_
  intro p e s m args below meth c s₁ B hml hv
  obtain ⟨rfl, hP, hK⟩ := hv
  have hx := B.exec
  have hb := B.bytes
  have hr := B.returns
  have hts := atoms_spec (ws := wsX1_power) B.pre
  have hts : ∀ w ∈ lw_all, w.before _ s = true := fun w h => hts w (List.mem_cons_of_mem _ h)
  have hown : s.vm.findClass RX1 = some m.cls := findClass_of_methodNamed B.named
  have hlocks := B.notSynchronized
  have hS : va_S ff_F s.heap s.heap [] := va_S.rf
  have hl := lv_entry ([.ref h0, .int n]) (n := 4) (Nat.le_of_ble_eq_true rfl)
  rw [lg_entry_eq]
  generalize (lg_sl ([.ref h0, .int n]) ++ List.replicate (4 - (lg_sl ([.ref h0, .int n])).length) Slot.unset).toArray = ls at hl ⊢
  have hl : lv_has ls 4 [(0, .ref h0), (1, .int n)] := hl
  have lp : ∀ (k : Nat) (zz : Int32) (H : Heap) (locs : List Loc) (ls : Array Slot), k ≤ N → mp_pl h k zz = mp_pl h N 1 → va_S ff_F s.heap H locs → va_P (dC, dI) vwCl [(h0, .inr (1, [.int h]))] H → lv_has ls 4 [(0, .ref h0), (1, .int n), (2, .int zz), (3, .int (nI (N - k)))] → W p l e (headSpec wsX1_power ({ frames := 1, cells := 0, slots := 0, locals := 23 })).room s m ([.ref h0, .int n] : List Value).toArray below meth c H locs 0 0 (MQ below (ff_Q (mp_pl h N 1)) ([.ref h0, .int n] : List Value).toArray s 0 0 ff_F) (F0 m 4 ls []) := by
    intro k
    induction k with
    | zero =>
      intro zz H locs ls hk hv hS hP hl
      refine lv_iload_n hx hb dX1_power_4 rfl (lv_at hl 3 rfl) ?_
      refine lv_iload_n hx hb dX1_power_5 rfl (lv_at hl 1 rfl) ?_
      refine lv_sipush (v := 255) hx hb dX1_power_6 (by decide) ?_
      refine lv_iand hx hb dX1_power_9 ?_
      refine lv_topi (fun y_1 ey_1 => ?_)
      rw [eN] at ey_1
      subst ey_1
      refine lv_icmp_ge (tgt := 28) hx hb dX1_power_10 (by decide) (fun c_1 => ?_) (fun c_1 => ?_)
      · refine lv_iload_n hx hb dX1_power_28 rfl (lv_at hl 2 rfl) ?_
        exact W.iret (v := zz) hx hb hr (fun t ht hW => ⟨⟨zz, (), rfl, hv, trivial⟩, hS.F ht⟩) hS.2.2 dX1_power_29
      · exact absurd (nI_le (a := N) (b := N - 0) (by omega) (by omega)) c_1
    | succ k ih =>
      intro zz H locs ls hk hv hS hP hl
      refine lv_iload_n hx hb dX1_power_4 rfl (lv_at hl 3 rfl) ?_
      refine lv_iload_n hx hb dX1_power_5 rfl (lv_at hl 1 rfl) ?_
      refine lv_sipush (v := 255) hx hb dX1_power_6 (by decide) ?_
      refine lv_iand hx hb dX1_power_9 ?_
      refine lv_topi (fun y_2 ey_2 => ?_)
      rw [eN] at ey_2
      subst ey_2
      refine lv_icmp_ge (tgt := 28) hx hb dX1_power_10 (by decide) (fun c_1 => ?_) (fun c_1 => ?_)
      · exact absurd c_1 (nI_ge (a := N - (k + 1)) (b := N) (by omega) (by omega))
      · refine lv_iload_n hx hb dX1_power_13 rfl (lv_at hl 2 rfl) ?_
        refine lv_aload_n hx hb dX1_power_14 rfl (lv_at hl 0 rfl) ?_
        refine va_get (D := (dC, dI)) (ci := 1) (v := .int h) (C := RX1) (T := TX1) (N := 1) hx hb hts in_X1 hown hK hP 0 rfl rfl 0 (by decide) (hts _ q75) (fun _ h9 => h9) rfl dX1_power_15 ?_
        refine ff_goon (v := (mp_prod zz h)) (rest := []) (va_runS (As := [.int zz, .int h]) ⟨hx, hb, hml, hown, hts⟩ (metX1_product l zz h) (va_cwS 2 hts (lw_S q83 q84 q2 q85) rfl rfl rfl (by decide +kernel) ⟨Nat.le_of_ble_eq_true rfl, Nat.le_of_ble_eq_true rfl⟩) ⟨ff_blind _, fun U hU hW => ⟨rfl, trivial⟩⟩ rfl rfl hl.1 rfl (lv_room (Nat.le_of_ble_eq_true rfl)) dX1_power_18 ⟨Nat.le_of_ble_eq_true rfl, Nat.le_of_ble_eq_true rfl⟩) hS (fun H locs hk hS => ?_)
        have hP := ff_keep hP hk
        clear hk
        refine lv_istore_n (lv' := [(2, .int (mp_prod zz h)), (0, .ref h0), (1, .int n), (3, .int (nI (N - (k + 1))))]) hx hb dX1_power_21 rfl hl (by decide) rfl (fun ls hl => ?_)
        refine lv_iinc (v := (nI (N - k))) (lv' := [(3, .int (nI (N - k))), (2, .int (mp_prod zz h)), (0, .ref h0), (1, .int n)]) hx hb dX1_power_22 hl (k := 3) rfl (by rw [show Int32.ofInt 1 = (1 : Int32) by decide, nI_1, show N - (k + 1) + 1 = N - k by omega]) (by decide) rfl (fun ls hl => ?_)
        refine lv_goto (tgt := 4) hx hb dX1_power_25 (by decide) ?_
        exact ih (mp_prod zz h) _ _ ls (by omega) hv hS hP (lv_sub hl [2, 3, 1, 0] rfl)
  refine lv_iconst (v := 1) hx hb dX1_power_0 (by decide) ?_
  refine lv_istore_n (lv' := [(2, .int 1), (0, .ref h0), (1, .int n)]) hx hb dX1_power_1 rfl hl (by decide) rfl (fun ls hl => ?_)
  refine lv_iconst (v := 0) hx hb dX1_power_2 (by decide) ?_
  refine lv_istore_n (lv' := [(3, .int 0), (2, .int 1), (0, .ref h0), (1, .int n)]) hx hb dX1_power_3 rfl hl (by decide) rfl (fun ls hl => ?_)
  have hl : lv_has ls 4 [(0, .ref h0), (1, .int n), (2, .int 1), (3, .int (nI (N - N)))] := by
    rw [Nat.sub_self]
    exact lv_sub hl [2, 3, 1, 0] rfl
  exact lp N 1 s.heap [] ls (by omega) rfl hS hP hl
end
section
/-! THE CLAIM OUT OF ONE WALK OF THE LAW'S BODY. Your part is whole_start (and what it stands on); all else here is the same for every law, but numbers. -/
def R_law : String := "ByteFieldLaw"
def lw_P (b : Addr) (xs : List Int32) (args : Array Value) (s : State) : Prop := args = #[.ref b] ∧ s.IntsAt b xs ∧ xs.length ≤ 288 ∧ (Jvm.Cond.and given_1 narrow_1).before args s = true
def lw_Q (_ : Array Value) (s : State) (o : Outcome) (t : State) : Prop := o = .returned (some (.int 1)) ∧ Framed s o t [] 600000 7290000
def lw_Z (below : List Frame) (a : Array Value) (s : State) : State → Prop := fun t => ∃ o, t.status = .running ∧ Ended t below o ∧ lw_Q a s o t
/-- the law's own end, with 1 on the stack, nothing written that was there before, its room as the claim has it -/
theorem lw_ret {p : Program} {l : Launch} {e : Env} {s : State} {m : MethodId} {below : List Frame} {meth : Method} {c : Code} {b : Nat} (hx : p.tables.exec = Jvm.exec) (hb : c.code = code) (hr : meth.sig.returnType = ret) (hlocks : meth.locks = false) {pc : Nat} {H : Heap} {ls : Array Slot} (hdg : decode code pc = .ok (.ireturn, 1)) : W p l e room_1 s m #[Value.ref b] below meth c H [] 600000 7290000 (lw_Z below #[Value.ref b] s) (F0 m pc ls [.int 1]) := by
  intro T hT X
  obtain ⟨fs, hret, hrun, hended, hW, hframe⟩ := X.leave (v := some (.int 1)) (hlocks := hlocks) (fun h => by rw [hr] at h; cases h)
  have hmeth' : T.vm.method? m = some meth := X.method'
  refine ⟨T.setFrames fs, ?_, .returned (some (.int 1)), hrun, hended, rfl, ⟨_, rfl⟩, hW, hframe⟩
  jvm_step X.here [X.here.top, hx, hb, hdg, hmeth', hr, ret, narrow_b1]
  (try refine ⟨rfl, ?_⟩); (try refine ⟨rfl, ?_⟩)
  first | (intro acts; rw [hret _ acts rfl rfl rfl]) | rw [hret _ _ rfl rfl rfl]
  exact Steps.refl _
/-- what holds at the law's entry: the machine, the code, the tables' words (any of lw_tbl by 'hts w (by decide +kernel)'), the script of L ints xs at the cell b, what the Statement gives of the start (any of its parts by flat_of_before) -/
def lw_At (p : Program) (s : State) (m : MethodId) (meth : Method) (c : Code) (b L : Nat) (xs : Nat → Int32) : Prop :=
  p.tables.exec = Jvm.exec ∧ c.code = code ∧ meth.sig.returnType = ret ∧ c.maxLocals = 4 ∧ s.vm.findClass R_law = some m.cls ∧ (∀ w ∈ lw_tbl, w.before #[Value.ref b] s = true) ∧ va_X b L xs s s.heap ∧ b < s.heap.size ∧ meth.locks = false ∧ (Jvm.Cond.and given_1 narrow_1).before #[Value.ref b] s = true
end
section
/-! THE LAW: its eight cases, each from its own place to 314 -/
set_option maxHeartbeats 4000000 in
set_option maxRecDepth 100000 in
/-- case 0: times -/
theorem law_c0 {p : Program} {l : Launch} {e : Env} {s : State} {m : MethodId} {below : List Frame} {meth : Method} {c : Code} {dC : Nat → ClassId} {dI : Nat → Nat → Nat} {b L : Nat} {xs : Nat → Int32} (C0 : lw_At p s m meth c b L xs) (hK : va_K (dC, dI) vwCl [] s) {u ox om : Nat} (hu : u < 256) {H : Heap} {locs : List Loc} (hP : va_P (dC, dI) vwCl [(ox, .inr (0, [.int (nI u)])), (om, .inr (1, [.int (nI u)]))] H) (hD : va_D (fun q : Nat => s.heap.size ≤ q) [(ox, .inr (0, [.int (nI u)])), (om, .inr (1, [.int (nI u)]))]) (hS : va_S (fun q : Nat => s.heap.size ≤ q) s.heap H locs) {x3 : Int32} (h_1 : vp_in (x3 + 1) L) (h_2 : vp_in (x3 + 2) L) (h_3 : vp_in (x3 + 3) L) {ls : Array Slot} (hl : lv_has ls 4 [(0, .ref b), (1, .ref ox), (2, .ref om), (3, .int x3)])
    (K : ∀ (u : Nat) (H : Heap) (locs : List Loc), u < 256 → va_P (dC, dI) vwCl [(ox, .inr (0, [.int (nI u)])), (om, .inr (1, [.int (nI u)]))] H → va_D (fun q : Nat => s.heap.size ≤ q) [(ox, .inr (0, [.int (nI u)])), (om, .inr (1, [.int (nI u)]))] → va_S (fun q : Nat => s.heap.size ≤ q) s.heap H locs → W p l e room_1 s m #[Value.ref b] below meth c H locs 2 2 (lw_Z below #[Value.ref b] s) (F0 m 314 ls [])) : W p l e room_1 s m #[Value.ref b] below meth c H locs 2 2 (lw_Z below #[Value.ref b] s) (F0 m 80 ls []) := by
  obtain ⟨hx, hb, hr, hml, hown, hts0, hX, hbl, hlocks, hgv⟩ := C0
  have hts : ∀ w ∈ lw_all, w.before #[Value.ref b] s = true := fun w h => hts0 w (lw_all_tbl h)
  have hA : ∀ q : Nat, s.heap.size ≤ q → (fun q : Nat => s.heap.size ≤ q) q := fun _ h => h
  have hbA : ¬ (fun q : Nat => s.heap.size ≤ q) b := Nat.not_le.mpr hbl
  refine lv_aload_n hx hb dL_law_80 rfl (lv_at hl 1 rfl) ?_
  refine lv_aload_n hx hb dL_law_81 rfl (lv_at hl 0 rfl) ?_
  refine lv_iload_n hx hb dL_law_82 rfl (lv_at hl 3 rfl) ?_
  refine lv_iconst (v := 1) hx hb dL_law_83 (by decide) ?_
  refine lv_iadd hx hb dL_law_84 ?_
  refine va_sld hx hb hX hbl hbA hS h_1 dL_law_85 ?_
  refine lv_aload_n hx hb dL_law_86 rfl (lv_at hl 0 rfl) ?_
  refine lv_iload_n hx hb dL_law_87 rfl (lv_at hl 3 rfl) ?_
  refine lv_iconst (v := 2) hx hb dL_law_88 (by decide) ?_
  refine lv_iadd hx hb dL_law_89 ?_
  refine va_sld hx hb hX hbl hbA hS h_2 dL_law_90 ?_
  refine ff_goon (v := (gf_mul ((xs (x3 + 1).toNatClampNeg) &&& 255) ((xs (x3 + 2).toNatClampNeg) &&& 255))) (rest := []) (va_runV (As := [.int (xs (x3 + 1).toNatClampNeg), .int (xs (x3 + 2).toNatClampNeg)]) ⟨hx, hb, hml, hown, hts⟩ (metX0_times l ox (xs (x3 + 1).toNatClampNeg) (xs (x3 + 2).toNatClampNeg)) (cwV 2 hts (lw_V q16 q17 q18 q1 q19) rfl rfl rfl (by decide +kernel) ⟨Nat.le_of_ble_eq_true rfl, Nat.le_of_ble_eq_true rfl⟩) ⟨ff_blind _, va_recv hK hP (ci := 0) (q0 := 0) rfl rfl, fun U hU hW => ⟨rfl, trivial⟩⟩ rfl rfl hl.1 rfl (lv_room (Nat.le_of_ble_eq_true rfl)) dL_law_91 ⟨Nat.le_of_ble_eq_true rfl, Nat.le_of_ble_eq_true rfl⟩) hS (fun H locs hk hS => ?_)
  have hP := ff_keep hP hk
  clear hk
  refine lv_aload_n hx hb dL_law_94 rfl (lv_at hl 2 rfl) ?_
  refine lv_aload_n hx hb dL_law_95 rfl (lv_at hl 0 rfl) ?_
  refine lv_iload_n hx hb dL_law_96 rfl (lv_at hl 3 rfl) ?_
  refine lv_iconst (v := 1) hx hb dL_law_97 (by decide) ?_
  refine lv_iadd hx hb dL_law_98 ?_
  refine va_sld hx hb hX hbl hbA hS h_1 dL_law_99 ?_
  refine lv_aload_n hx hb dL_law_100 rfl (lv_at hl 0 rfl) ?_
  refine lv_iload_n hx hb dL_law_101 rfl (lv_at hl 3 rfl) ?_
  refine lv_iconst (v := 2) hx hb dL_law_102 (by decide) ?_
  refine lv_iadd hx hb dL_law_103 ?_
  refine va_sld hx hb hX hbl hbA hS h_2 dL_law_104 ?_
  refine ff_goon (v := (mp_prod ((xs (x3 + 1).toNatClampNeg) &&& 255) ((xs (x3 + 2).toNatClampNeg) &&& 255))) (rest := [.int (gf_mul ((xs (x3 + 1).toNatClampNeg) &&& 255) ((xs (x3 + 2).toNatClampNeg) &&& 255))]) (va_runV (As := [.int (xs (x3 + 1).toNatClampNeg), .int (xs (x3 + 2).toNatClampNeg)]) ⟨hx, hb, hml, hown, hts⟩ (metX1_times l om (xs (x3 + 1).toNatClampNeg) (xs (x3 + 2).toNatClampNeg)) (cwV 2 hts (lw_V q79 q80 q81 q2 q82) rfl rfl rfl (by decide +kernel) ⟨Nat.le_of_ble_eq_true rfl, Nat.le_of_ble_eq_true rfl⟩) ⟨ff_blind _, va_recv hK hP (ci := 1) (q0 := 1) rfl rfl, fun U hU hW => ⟨rfl, trivial⟩⟩ rfl rfl hl.1 rfl (lv_room (Nat.le_of_ble_eq_true rfl)) dL_law_105 ⟨Nat.le_of_ble_eq_true rfl, Nat.le_of_ble_eq_true rfl⟩) hS (fun H locs hk hS => ?_)
  have hP := ff_keep hP hk
  clear hk
  refine lv_icmp_eq (tgt := 314) hx hb dL_law_108 (by decide) (fun c_1 => ?_) (fun c_1 => ?_)
  · exact K u H locs hu hP hD hS
  · exact absurd (ck_times (xs (x3 + 1).toNatClampNeg) (xs (x3 + 2).toNatClampNeg)) c_1
set_option maxHeartbeats 4000000 in
set_option maxRecDepth 100000 in
/-- case 1: timesThree -/
theorem law_c1 {p : Program} {l : Launch} {e : Env} {s : State} {m : MethodId} {below : List Frame} {meth : Method} {c : Code} {dC : Nat → ClassId} {dI : Nat → Nat → Nat} {b L : Nat} {xs : Nat → Int32} (C0 : lw_At p s m meth c b L xs) (hK : va_K (dC, dI) vwCl [] s) {u ox om : Nat} (hu : u < 256) {H : Heap} {locs : List Loc} (hP : va_P (dC, dI) vwCl [(ox, .inr (0, [.int (nI u)])), (om, .inr (1, [.int (nI u)]))] H) (hD : va_D (fun q : Nat => s.heap.size ≤ q) [(ox, .inr (0, [.int (nI u)])), (om, .inr (1, [.int (nI u)]))]) (hS : va_S (fun q : Nat => s.heap.size ≤ q) s.heap H locs) {x3 : Int32} (h_1 : vp_in (x3 + 1) L) (h_2 : vp_in (x3 + 2) L) (h_3 : vp_in (x3 + 3) L) {ls : Array Slot} (hl : lv_has ls 4 [(0, .ref b), (1, .ref ox), (2, .ref om), (3, .int x3)])
    (K : ∀ (u : Nat) (H : Heap) (locs : List Loc), u < 256 → va_P (dC, dI) vwCl [(ox, .inr (0, [.int (nI u)])), (om, .inr (1, [.int (nI u)]))] H → va_D (fun q : Nat => s.heap.size ≤ q) [(ox, .inr (0, [.int (nI u)])), (om, .inr (1, [.int (nI u)]))] → va_S (fun q : Nat => s.heap.size ≤ q) s.heap H locs → W p l e room_1 s m #[Value.ref b] below meth c H locs 2 2 (lw_Z below #[Value.ref b] s) (F0 m 314 ls [])) : W p l e room_1 s m #[Value.ref b] below meth c H locs 2 2 (lw_Z below #[Value.ref b] s) (F0 m 113 ls []) := by
  obtain ⟨hx, hb, hr, hml, hown, hts0, hX, hbl, hlocks, hgv⟩ := C0
  have hts : ∀ w ∈ lw_all, w.before #[Value.ref b] s = true := fun w h => hts0 w (lw_all_tbl h)
  have hA : ∀ q : Nat, s.heap.size ≤ q → (fun q : Nat => s.heap.size ≤ q) q := fun _ h => h
  have hbA : ¬ (fun q : Nat => s.heap.size ≤ q) b := Nat.not_le.mpr hbl
  refine lv_aload_n hx hb dL_law_113 rfl (lv_at hl 1 rfl) ?_
  refine lv_aload_n hx hb dL_law_114 rfl (lv_at hl 0 rfl) ?_
  refine lv_iload_n hx hb dL_law_115 rfl (lv_at hl 3 rfl) ?_
  refine lv_iconst (v := 1) hx hb dL_law_116 (by decide) ?_
  refine lv_iadd hx hb dL_law_117 ?_
  refine va_sld hx hb hX hbl hbA hS h_1 dL_law_118 ?_
  refine lv_aload_n hx hb dL_law_119 rfl (lv_at hl 0 rfl) ?_
  refine lv_iload_n hx hb dL_law_120 rfl (lv_at hl 3 rfl) ?_
  refine lv_iconst (v := 2) hx hb dL_law_121 (by decide) ?_
  refine lv_iadd hx hb dL_law_122 ?_
  refine va_sld hx hb hX hbl hbA hS h_2 dL_law_123 ?_
  refine lv_aload_n hx hb dL_law_124 rfl (lv_at hl 0 rfl) ?_
  refine lv_iload_n hx hb dL_law_125 rfl (lv_at hl 3 rfl) ?_
  refine lv_iconst (v := 3) hx hb dL_law_126 (by decide) ?_
  refine lv_iadd hx hb dL_law_127 ?_
  refine va_sld hx hb hX hbl hbA hS h_3 dL_law_128 ?_
  refine ff_goon (v := (gf_mul (gf_mul ((xs (x3 + 1).toNatClampNeg) &&& 255) ((xs (x3 + 2).toNatClampNeg) &&& 255)) ((xs (x3 + 3).toNatClampNeg) &&& 255))) (rest := []) (va_runV (As := [.int (xs (x3 + 1).toNatClampNeg), .int (xs (x3 + 2).toNatClampNeg), .int (xs (x3 + 3).toNatClampNeg)]) ⟨hx, hb, hml, hown, hts⟩ (metX0_timesThree l ox (xs (x3 + 1).toNatClampNeg) (xs (x3 + 2).toNatClampNeg) (xs (x3 + 3).toNatClampNeg)) (cwV 3 hts (lw_V q26 q27 q28 q1 q29) rfl rfl rfl (by decide +kernel) ⟨Nat.le_of_ble_eq_true rfl, Nat.le_of_ble_eq_true rfl⟩) ⟨ff_blind _, va_recv hK hP (ci := 0) (q0 := 0) rfl rfl, fun U hU hW => ⟨rfl, trivial⟩⟩ rfl rfl hl.1 rfl (lv_room (Nat.le_of_ble_eq_true rfl)) dL_law_129 ⟨Nat.le_of_ble_eq_true rfl, Nat.le_of_ble_eq_true rfl⟩) hS (fun H locs hk hS => ?_)
  have hP := ff_keep hP hk
  clear hk
  refine lv_aload_n hx hb dL_law_132 rfl (lv_at hl 2 rfl) ?_
  refine lv_aload_n hx hb dL_law_133 rfl (lv_at hl 0 rfl) ?_
  refine lv_iload_n hx hb dL_law_134 rfl (lv_at hl 3 rfl) ?_
  refine lv_iconst (v := 1) hx hb dL_law_135 (by decide) ?_
  refine lv_iadd hx hb dL_law_136 ?_
  refine va_sld hx hb hX hbl hbA hS h_1 dL_law_137 ?_
  refine lv_aload_n hx hb dL_law_138 rfl (lv_at hl 0 rfl) ?_
  refine lv_iload_n hx hb dL_law_139 rfl (lv_at hl 3 rfl) ?_
  refine lv_iconst (v := 2) hx hb dL_law_140 (by decide) ?_
  refine lv_iadd hx hb dL_law_141 ?_
  refine va_sld hx hb hX hbl hbA hS h_2 dL_law_142 ?_
  refine lv_aload_n hx hb dL_law_143 rfl (lv_at hl 0 rfl) ?_
  refine lv_iload_n hx hb dL_law_144 rfl (lv_at hl 3 rfl) ?_
  refine lv_iconst (v := 3) hx hb dL_law_145 (by decide) ?_
  refine lv_iadd hx hb dL_law_146 ?_
  refine va_sld hx hb hX hbl hbA hS h_3 dL_law_147 ?_
  refine ff_goon (v := (mp_prod ((xs (x3 + 1).toNatClampNeg) &&& 255) (mp_prod ((xs (x3 + 2).toNatClampNeg) &&& 255) ((xs (x3 + 3).toNatClampNeg) &&& 255)))) (rest := [.int (gf_mul (gf_mul ((xs (x3 + 1).toNatClampNeg) &&& 255) ((xs (x3 + 2).toNatClampNeg) &&& 255)) ((xs (x3 + 3).toNatClampNeg) &&& 255))]) (va_runV (As := [.int (xs (x3 + 1).toNatClampNeg), .int (xs (x3 + 2).toNatClampNeg), .int (xs (x3 + 3).toNatClampNeg)]) ⟨hx, hb, hml, hown, hts⟩ (metX1_timesThree l om (xs (x3 + 1).toNatClampNeg) (xs (x3 + 2).toNatClampNeg) (xs (x3 + 3).toNatClampNeg)) (cwV 3 hts (lw_V q86 q87 q88 q2 q89) rfl rfl rfl (by decide +kernel) ⟨Nat.le_of_ble_eq_true rfl, Nat.le_of_ble_eq_true rfl⟩) ⟨ff_blind _, va_recv hK hP (ci := 1) (q0 := 1) rfl rfl, fun U hU hW => ⟨rfl, trivial⟩⟩ rfl rfl hl.1 rfl (lv_room (Nat.le_of_ble_eq_true rfl)) dL_law_148 ⟨Nat.le_of_ble_eq_true rfl, Nat.le_of_ble_eq_true rfl⟩) hS (fun H locs hk hS => ?_)
  have hP := ff_keep hP hk
  clear hk
  refine lv_icmp_eq (tgt := 314) hx hb dL_law_151 (by decide) (fun c_1 => ?_) (fun c_1 => ?_)
  · exact K u H locs hu hP hD hS
  · exact absurd (ck_three (xs (x3 + 1).toNatClampNeg) (xs (x3 + 2).toNatClampNeg) (xs (x3 + 3).toNatClampNeg)) c_1
set_option maxHeartbeats 4000000 in
set_option maxRecDepth 100000 in
/-- case 2: square -/
theorem law_c2 {p : Program} {l : Launch} {e : Env} {s : State} {m : MethodId} {below : List Frame} {meth : Method} {c : Code} {dC : Nat → ClassId} {dI : Nat → Nat → Nat} {b L : Nat} {xs : Nat → Int32} (C0 : lw_At p s m meth c b L xs) (hK : va_K (dC, dI) vwCl [] s) {u ox om : Nat} (hu : u < 256) {H : Heap} {locs : List Loc} (hP : va_P (dC, dI) vwCl [(ox, .inr (0, [.int (nI u)])), (om, .inr (1, [.int (nI u)]))] H) (hD : va_D (fun q : Nat => s.heap.size ≤ q) [(ox, .inr (0, [.int (nI u)])), (om, .inr (1, [.int (nI u)]))]) (hS : va_S (fun q : Nat => s.heap.size ≤ q) s.heap H locs) {x3 : Int32} (h_1 : vp_in (x3 + 1) L) (h_2 : vp_in (x3 + 2) L) (h_3 : vp_in (x3 + 3) L) {ls : Array Slot} (hl : lv_has ls 4 [(0, .ref b), (1, .ref ox), (2, .ref om), (3, .int x3)])
    (K : ∀ (u : Nat) (H : Heap) (locs : List Loc), u < 256 → va_P (dC, dI) vwCl [(ox, .inr (0, [.int (nI u)])), (om, .inr (1, [.int (nI u)]))] H → va_D (fun q : Nat => s.heap.size ≤ q) [(ox, .inr (0, [.int (nI u)])), (om, .inr (1, [.int (nI u)]))] → va_S (fun q : Nat => s.heap.size ≤ q) s.heap H locs → W p l e room_1 s m #[Value.ref b] below meth c H locs 2 2 (lw_Z below #[Value.ref b] s) (F0 m 314 ls [])) : W p l e room_1 s m #[Value.ref b] below meth c H locs 2 2 (lw_Z below #[Value.ref b] s) (F0 m 156 ls []) := by
  obtain ⟨hx, hb, hr, hml, hown, hts0, hX, hbl, hlocks, hgv⟩ := C0
  have hts : ∀ w ∈ lw_all, w.before #[Value.ref b] s = true := fun w h => hts0 w (lw_all_tbl h)
  have hA : ∀ q : Nat, s.heap.size ≤ q → (fun q : Nat => s.heap.size ≤ q) q := fun _ h => h
  have hbA : ¬ (fun q : Nat => s.heap.size ≤ q) b := Nat.not_le.mpr hbl
  refine lv_aload_n hx hb dL_law_156 rfl (lv_at hl 1 rfl) ?_
  refine lv_aload_n hx hb dL_law_157 rfl (lv_at hl 0 rfl) ?_
  refine lv_iload_n hx hb dL_law_158 rfl (lv_at hl 3 rfl) ?_
  refine lv_iconst (v := 1) hx hb dL_law_159 (by decide) ?_
  refine lv_iadd hx hb dL_law_160 ?_
  refine va_sld hx hb hX hbl hbA hS h_1 dL_law_161 ?_
  refine ff_goon (v := (gf_sqr ((xs (x3 + 1).toNatClampNeg) &&& 255))) (rest := []) (va_runV (As := [.int (xs (x3 + 1).toNatClampNeg)]) ⟨hx, hb, hml, hown, hts⟩ (metX0_square l ox (xs (x3 + 1).toNatClampNeg)) (cwV 1 hts (lw_V q34 q35 q36 q1 q37) rfl rfl rfl (by decide +kernel) ⟨Nat.le_of_ble_eq_true rfl, Nat.le_of_ble_eq_true rfl⟩) ⟨ff_blind _, va_recv hK hP (ci := 0) (q0 := 0) rfl rfl, fun U hU hW => ⟨rfl, trivial⟩⟩ rfl rfl hl.1 rfl (lv_room (Nat.le_of_ble_eq_true rfl)) dL_law_162 ⟨Nat.le_of_ble_eq_true rfl, Nat.le_of_ble_eq_true rfl⟩) hS (fun H locs hk hS => ?_)
  have hP := ff_keep hP hk
  clear hk
  refine lv_aload_n hx hb dL_law_165 rfl (lv_at hl 2 rfl) ?_
  refine lv_aload_n hx hb dL_law_166 rfl (lv_at hl 0 rfl) ?_
  refine lv_iload_n hx hb dL_law_167 rfl (lv_at hl 3 rfl) ?_
  refine lv_iconst (v := 1) hx hb dL_law_168 (by decide) ?_
  refine lv_iadd hx hb dL_law_169 ?_
  refine va_sld hx hb hX hbl hbA hS h_1 dL_law_170 ?_
  refine ff_goon (v := (mp_prod ((xs (x3 + 1).toNatClampNeg) &&& 255) ((xs (x3 + 1).toNatClampNeg) &&& 255))) (rest := [.int (gf_sqr ((xs (x3 + 1).toNatClampNeg) &&& 255))]) (va_runV (As := [.int (xs (x3 + 1).toNatClampNeg)]) ⟨hx, hb, hml, hown, hts⟩ (metX1_square l om (xs (x3 + 1).toNatClampNeg)) (cwV 1 hts (lw_V q90 q91 q92 q2 q93) rfl rfl rfl (by decide +kernel) ⟨Nat.le_of_ble_eq_true rfl, Nat.le_of_ble_eq_true rfl⟩) ⟨ff_blind _, va_recv hK hP (ci := 1) (q0 := 1) rfl rfl, fun U hU hW => ⟨rfl, trivial⟩⟩ rfl rfl hl.1 rfl (lv_room (Nat.le_of_ble_eq_true rfl)) dL_law_171 ⟨Nat.le_of_ble_eq_true rfl, Nat.le_of_ble_eq_true rfl⟩) hS (fun H locs hk hS => ?_)
  have hP := ff_keep hP hk
  clear hk
  refine lv_icmp_eq (tgt := 314) hx hb dL_law_174 (by decide) (fun c_1 => ?_) (fun c_1 => ?_)
  · exact K u H locs hu hP hD hS
  · exact absurd (ck_square (xs (x3 + 1).toNatClampNeg)) c_1
set_option maxHeartbeats 4000000 in
set_option maxRecDepth 100000 in
/-- case 3: inverse -/
theorem law_c3 {p : Program} {l : Launch} {e : Env} {s : State} {m : MethodId} {below : List Frame} {meth : Method} {c : Code} {dC : Nat → ClassId} {dI : Nat → Nat → Nat} {b L : Nat} {xs : Nat → Int32} (C0 : lw_At p s m meth c b L xs) (hK : va_K (dC, dI) vwCl [] s) {u ox om : Nat} (hu : u < 256) {H : Heap} {locs : List Loc} (hP : va_P (dC, dI) vwCl [(ox, .inr (0, [.int (nI u)])), (om, .inr (1, [.int (nI u)]))] H) (hD : va_D (fun q : Nat => s.heap.size ≤ q) [(ox, .inr (0, [.int (nI u)])), (om, .inr (1, [.int (nI u)]))]) (hS : va_S (fun q : Nat => s.heap.size ≤ q) s.heap H locs) {x3 : Int32} (h_1 : vp_in (x3 + 1) L) (h_2 : vp_in (x3 + 2) L) (h_3 : vp_in (x3 + 3) L) {ls : Array Slot} (hl : lv_has ls 4 [(0, .ref b), (1, .ref ox), (2, .ref om), (3, .int x3)])
    (K : ∀ (u : Nat) (H : Heap) (locs : List Loc), u < 256 → va_P (dC, dI) vwCl [(ox, .inr (0, [.int (nI u)])), (om, .inr (1, [.int (nI u)]))] H → va_D (fun q : Nat => s.heap.size ≤ q) [(ox, .inr (0, [.int (nI u)])), (om, .inr (1, [.int (nI u)]))] → va_S (fun q : Nat => s.heap.size ≤ q) s.heap H locs → W p l e room_1 s m #[Value.ref b] below meth c H locs 2 2 (lw_Z below #[Value.ref b] s) (F0 m 314 ls [])) : W p l e room_1 s m #[Value.ref b] below meth c H locs 2 2 (lw_Z below #[Value.ref b] s) (F0 m 179 ls []) := by
  obtain ⟨hx, hb, hr, hml, hown, hts0, hX, hbl, hlocks, hgv⟩ := C0
  have hts : ∀ w ∈ lw_all, w.before #[Value.ref b] s = true := fun w h => hts0 w (lw_all_tbl h)
  have hA : ∀ q : Nat, s.heap.size ≤ q → (fun q : Nat => s.heap.size ≤ q) q := fun _ h => h
  have hbA : ¬ (fun q : Nat => s.heap.size ≤ q) b := Nat.not_le.mpr hbl
  refine lv_aload_n hx hb dL_law_179 rfl (lv_at hl 1 rfl) ?_
  refine lv_aload_n hx hb dL_law_180 rfl (lv_at hl 0 rfl) ?_
  refine lv_iload_n hx hb dL_law_181 rfl (lv_at hl 3 rfl) ?_
  refine lv_iconst (v := 1) hx hb dL_law_182 (by decide) ?_
  refine lv_iadd hx hb dL_law_183 ?_
  refine va_sld hx hb hX hbl hbA hS h_1 dL_law_184 ?_
  refine ff_goon (v := (if ((xs (x3 + 1).toNatClampNeg) &&& 255) = 0 then (-1 : Int32) else gf_inv ((xs (x3 + 1).toNatClampNeg) &&& 255))) (rest := []) (va_runV (As := [.int (xs (x3 + 1).toNatClampNeg)]) ⟨hx, hb, hml, hown, hts⟩ (metX0_inverse l ox (xs (x3 + 1).toNatClampNeg)) (cwV 1 hts (lw_V q41 q42 q43 q1 q44) rfl rfl rfl (by decide +kernel) ⟨Nat.le_of_ble_eq_true rfl, Nat.le_of_ble_eq_true rfl⟩) ⟨ff_blind _, va_recv hK hP (ci := 0) (q0 := 0) rfl rfl, fun U hU hW => ⟨rfl, trivial⟩⟩ rfl rfl hl.1 rfl (lv_room (Nat.le_of_ble_eq_true rfl)) dL_law_185 ⟨Nat.le_of_ble_eq_true rfl, Nat.le_of_ble_eq_true rfl⟩) hS (fun H locs hk hS => ?_)
  have hP := ff_keep hP hk
  clear hk
  refine lv_aload_n hx hb dL_law_188 rfl (lv_at hl 2 rfl) ?_
  refine lv_aload_n hx hb dL_law_189 rfl (lv_at hl 0 rfl) ?_
  refine lv_iload_n hx hb dL_law_190 rfl (lv_at hl 3 rfl) ?_
  refine lv_iconst (v := 1) hx hb dL_law_191 (by decide) ?_
  refine lv_iadd hx hb dL_law_192 ?_
  refine va_sld hx hb hX hbl hbA hS h_1 dL_law_193 ?_
  refine ff_goon (v := (if ((xs (x3 + 1).toNatClampNeg) &&& 255) = 0 then (-1 : Int32) else mp_quo 1 ((xs (x3 + 1).toNatClampNeg) &&& 255))) (rest := [.int (if ((xs (x3 + 1).toNatClampNeg) &&& 255) = 0 then (-1 : Int32) else gf_inv ((xs (x3 + 1).toNatClampNeg) &&& 255))]) (va_runV (As := [.int (xs (x3 + 1).toNatClampNeg)]) ⟨hx, hb, hml, hown, hts⟩ (metX1_inverse l om (xs (x3 + 1).toNatClampNeg)) (cwV 1 hts (lw_V q94 q95 q96 q2 q97) rfl rfl rfl (by decide +kernel) ⟨Nat.le_of_ble_eq_true rfl, Nat.le_of_ble_eq_true rfl⟩) ⟨ff_blind _, va_recv hK hP (ci := 1) (q0 := 1) rfl rfl, fun U hU hW => ⟨rfl, trivial⟩⟩ rfl rfl hl.1 rfl (lv_room (Nat.le_of_ble_eq_true rfl)) dL_law_194 ⟨Nat.le_of_ble_eq_true rfl, Nat.le_of_ble_eq_true rfl⟩) hS (fun H locs hk hS => ?_)
  have hP := ff_keep hP hk
  clear hk
  refine lv_icmp_eq (tgt := 314) hx hb dL_law_197 (by decide) (fun c_1 => ?_) (fun c_1 => ?_)
  · exact K u H locs hu hP hD hS
  · exact absurd (ck_inverse (xs (x3 + 1).toNatClampNeg)) c_1
set_option maxHeartbeats 4000000 in
set_option maxRecDepth 100000 in
/-- case 4: divide -/
theorem law_c4 {p : Program} {l : Launch} {e : Env} {s : State} {m : MethodId} {below : List Frame} {meth : Method} {c : Code} {dC : Nat → ClassId} {dI : Nat → Nat → Nat} {b L : Nat} {xs : Nat → Int32} (C0 : lw_At p s m meth c b L xs) (hK : va_K (dC, dI) vwCl [] s) {u ox om : Nat} (hu : u < 256) {H : Heap} {locs : List Loc} (hP : va_P (dC, dI) vwCl [(ox, .inr (0, [.int (nI u)])), (om, .inr (1, [.int (nI u)]))] H) (hD : va_D (fun q : Nat => s.heap.size ≤ q) [(ox, .inr (0, [.int (nI u)])), (om, .inr (1, [.int (nI u)]))]) (hS : va_S (fun q : Nat => s.heap.size ≤ q) s.heap H locs) {x3 : Int32} (h_1 : vp_in (x3 + 1) L) (h_2 : vp_in (x3 + 2) L) (h_3 : vp_in (x3 + 3) L) {ls : Array Slot} (hl : lv_has ls 4 [(0, .ref b), (1, .ref ox), (2, .ref om), (3, .int x3)])
    (K : ∀ (u : Nat) (H : Heap) (locs : List Loc), u < 256 → va_P (dC, dI) vwCl [(ox, .inr (0, [.int (nI u)])), (om, .inr (1, [.int (nI u)]))] H → va_D (fun q : Nat => s.heap.size ≤ q) [(ox, .inr (0, [.int (nI u)])), (om, .inr (1, [.int (nI u)]))] → va_S (fun q : Nat => s.heap.size ≤ q) s.heap H locs → W p l e room_1 s m #[Value.ref b] below meth c H locs 2 2 (lw_Z below #[Value.ref b] s) (F0 m 314 ls [])) : W p l e room_1 s m #[Value.ref b] below meth c H locs 2 2 (lw_Z below #[Value.ref b] s) (F0 m 202 ls []) := by
  obtain ⟨hx, hb, hr, hml, hown, hts0, hX, hbl, hlocks, hgv⟩ := C0
  have hts : ∀ w ∈ lw_all, w.before #[Value.ref b] s = true := fun w h => hts0 w (lw_all_tbl h)
  have hA : ∀ q : Nat, s.heap.size ≤ q → (fun q : Nat => s.heap.size ≤ q) q := fun _ h => h
  have hbA : ¬ (fun q : Nat => s.heap.size ≤ q) b := Nat.not_le.mpr hbl
  refine lv_aload_n hx hb dL_law_202 rfl (lv_at hl 1 rfl) ?_
  refine lv_aload_n hx hb dL_law_203 rfl (lv_at hl 0 rfl) ?_
  refine lv_iload_n hx hb dL_law_204 rfl (lv_at hl 3 rfl) ?_
  refine lv_iconst (v := 1) hx hb dL_law_205 (by decide) ?_
  refine lv_iadd hx hb dL_law_206 ?_
  refine va_sld hx hb hX hbl hbA hS h_1 dL_law_207 ?_
  refine lv_aload_n hx hb dL_law_208 rfl (lv_at hl 0 rfl) ?_
  refine lv_iload_n hx hb dL_law_209 rfl (lv_at hl 3 rfl) ?_
  refine lv_iconst (v := 2) hx hb dL_law_210 (by decide) ?_
  refine lv_iadd hx hb dL_law_211 ?_
  refine va_sld hx hb hX hbl hbA hS h_2 dL_law_212 ?_
  refine ff_goon (v := (if ((xs (x3 + 2).toNatClampNeg) &&& 255) = 0 then (-1 : Int32) else gf_mul ((xs (x3 + 1).toNatClampNeg) &&& 255) (gf_inv ((xs (x3 + 2).toNatClampNeg) &&& 255)))) (rest := []) (va_runV (As := [.int (xs (x3 + 1).toNatClampNeg), .int (xs (x3 + 2).toNatClampNeg)]) ⟨hx, hb, hml, hown, hts⟩ (metX0_divide l ox (xs (x3 + 1).toNatClampNeg) (xs (x3 + 2).toNatClampNeg)) (cwV 2 hts (lw_V q49 q50 q51 q1 q52) rfl rfl rfl (by decide +kernel) ⟨Nat.le_of_ble_eq_true rfl, Nat.le_of_ble_eq_true rfl⟩) ⟨ff_blind _, va_recv hK hP (ci := 0) (q0 := 0) rfl rfl, fun U hU hW => ⟨rfl, trivial⟩⟩ rfl rfl hl.1 rfl (lv_room (Nat.le_of_ble_eq_true rfl)) dL_law_213 ⟨Nat.le_of_ble_eq_true rfl, Nat.le_of_ble_eq_true rfl⟩) hS (fun H locs hk hS => ?_)
  have hP := ff_keep hP hk
  clear hk
  refine lv_aload_n hx hb dL_law_216 rfl (lv_at hl 2 rfl) ?_
  refine lv_aload_n hx hb dL_law_217 rfl (lv_at hl 0 rfl) ?_
  refine lv_iload_n hx hb dL_law_218 rfl (lv_at hl 3 rfl) ?_
  refine lv_iconst (v := 1) hx hb dL_law_219 (by decide) ?_
  refine lv_iadd hx hb dL_law_220 ?_
  refine va_sld hx hb hX hbl hbA hS h_1 dL_law_221 ?_
  refine lv_aload_n hx hb dL_law_222 rfl (lv_at hl 0 rfl) ?_
  refine lv_iload_n hx hb dL_law_223 rfl (lv_at hl 3 rfl) ?_
  refine lv_iconst (v := 2) hx hb dL_law_224 (by decide) ?_
  refine lv_iadd hx hb dL_law_225 ?_
  refine va_sld hx hb hX hbl hbA hS h_2 dL_law_226 ?_
  refine ff_goon (v := (if ((xs (x3 + 2).toNatClampNeg) &&& 255) = 0 then (-1 : Int32) else mp_quo ((xs (x3 + 1).toNatClampNeg) &&& 255) ((xs (x3 + 2).toNatClampNeg) &&& 255))) (rest := [.int (if ((xs (x3 + 2).toNatClampNeg) &&& 255) = 0 then (-1 : Int32) else gf_mul ((xs (x3 + 1).toNatClampNeg) &&& 255) (gf_inv ((xs (x3 + 2).toNatClampNeg) &&& 255)))]) (va_runV (As := [.int (xs (x3 + 1).toNatClampNeg), .int (xs (x3 + 2).toNatClampNeg)]) ⟨hx, hb, hml, hown, hts⟩ (metX1_divide l om (xs (x3 + 1).toNatClampNeg) (xs (x3 + 2).toNatClampNeg)) (cwV 2 hts (lw_V q101 q102 q103 q2 q104) rfl rfl rfl (by decide +kernel) ⟨Nat.le_of_ble_eq_true rfl, Nat.le_of_ble_eq_true rfl⟩) ⟨ff_blind _, va_recv hK hP (ci := 1) (q0 := 1) rfl rfl, fun U hU hW => ⟨rfl, trivial⟩⟩ rfl rfl hl.1 rfl (lv_room (Nat.le_of_ble_eq_true rfl)) dL_law_227 ⟨Nat.le_of_ble_eq_true rfl, Nat.le_of_ble_eq_true rfl⟩) hS (fun H locs hk hS => ?_)
  have hP := ff_keep hP hk
  clear hk
  refine lv_icmp_eq (tgt := 314) hx hb dL_law_230 (by decide) (fun c_1 => ?_) (fun c_1 => ?_)
  · exact K u H locs hu hP hD hS
  · exact absurd (ck_divide (xs (x3 + 1).toNatClampNeg) (xs (x3 + 2).toNatClampNeg)) c_1
set_option maxHeartbeats 4000000 in
set_option maxRecDepth 100000 in
/-- case 5: hold -/
theorem law_c5 {p : Program} {l : Launch} {e : Env} {s : State} {m : MethodId} {below : List Frame} {meth : Method} {c : Code} {dC : Nat → ClassId} {dI : Nat → Nat → Nat} {b L : Nat} {xs : Nat → Int32} (C0 : lw_At p s m meth c b L xs) (hK : va_K (dC, dI) vwCl [] s) {u ox om : Nat} (hu : u < 256) {H : Heap} {locs : List Loc} (hP : va_P (dC, dI) vwCl [(ox, .inr (0, [.int (nI u)])), (om, .inr (1, [.int (nI u)]))] H) (hD : va_D (fun q : Nat => s.heap.size ≤ q) [(ox, .inr (0, [.int (nI u)])), (om, .inr (1, [.int (nI u)]))]) (hS : va_S (fun q : Nat => s.heap.size ≤ q) s.heap H locs) {x3 : Int32} (h_1 : vp_in (x3 + 1) L) (h_2 : vp_in (x3 + 2) L) (h_3 : vp_in (x3 + 3) L) {ls : Array Slot} (hl : lv_has ls 4 [(0, .ref b), (1, .ref ox), (2, .ref om), (3, .int x3)])
    (K : ∀ (u : Nat) (H : Heap) (locs : List Loc), u < 256 → va_P (dC, dI) vwCl [(ox, .inr (0, [.int (nI u)])), (om, .inr (1, [.int (nI u)]))] H → va_D (fun q : Nat => s.heap.size ≤ q) [(ox, .inr (0, [.int (nI u)])), (om, .inr (1, [.int (nI u)]))] → va_S (fun q : Nat => s.heap.size ≤ q) s.heap H locs → W p l e room_1 s m #[Value.ref b] below meth c H locs 2 2 (lw_Z below #[Value.ref b] s) (F0 m 314 ls [])) : W p l e room_1 s m #[Value.ref b] below meth c H locs 2 2 (lw_Z below #[Value.ref b] s) (F0 m 235 ls []) := by
  obtain ⟨hx, hb, hr, hml, hown, hts0, hX, hbl, hlocks, hgv⟩ := C0
  have hts : ∀ w ∈ lw_all, w.before #[Value.ref b] s = true := fun w h => hts0 w (lw_all_tbl h)
  have hA : ∀ q : Nat, s.heap.size ≤ q → (fun q : Nat => s.heap.size ≤ q) q := fun _ h => h
  have hbA : ¬ (fun q : Nat => s.heap.size ≤ q) b := Nat.not_le.mpr hbl
  obtain ⟨v, hv, ev⟩ := ff_byte (xs (x3 + 1).toNatClampNeg)
  refine lv_aload_n hx hb dL_law_235 rfl (lv_at hl 1 rfl) ?_
  refine lv_aload_n hx hb dL_law_236 rfl (lv_at hl 0 rfl) ?_
  refine lv_iload_n hx hb dL_law_237 rfl (lv_at hl 3 rfl) ?_
  refine lv_iconst (v := 1) hx hb dL_law_238 (by decide) ?_
  refine lv_iadd hx hb dL_law_239 ?_
  refine va_sld hx hb hX hbl hbA hS h_1 dL_law_240 ?_
  have hPc := hP.sub (ws' := [(ox, .inr (0, [.int (nI u)]))]) [0] rfl
  have hDc := hD.sub (ws' := [(ox, .inr (0, [.int (nI u)]))]) [0] (by decide) rfl
  have hKc := hK.sub (tys' := []) [] rfl
  have hFc := va_free (wc := [(ox, .inr (0, [.int (nI u)]))]) hD hS hA [0] rfl
  refine va_calli (va_runV (As := [.int (xs (x3 + 1).toNatClampNeg)]) (rest := []) ⟨hx, hb, hml, hown, hts⟩ (metX0_hold l dC dI ox H.size (nI u) (xs (x3 + 1).toNatClampNeg)) (cwV 1 hts (lw_V q57 q58 q59 q1 q60) rfl rfl rfl (by decide +kernel) ⟨Nat.le_of_ble_eq_true rfl, Nat.le_of_ble_eq_true rfl⟩) ⟨fun a U g mk q => by obtain ⟨q0, q1, qP, qK, qD⟩ := q; exact ⟨q0, q1, qP, va_K.moved (u := U) (U := U.calling g mk a) (Vm.Alike.refl U.vm) qK, qD⟩, va_recv hKc hPc (ci := 0) (q0 := 0) rfl rfl, fun U hU hW => ⟨rfl, by rw [hU], by rw [hU]; exact hPc, va_K.moved hW.alike hKc, hDc.weaken (fun _ _ _ _ => trivial)⟩⟩ rfl rfl hl.1 rfl (lv_room (Nat.le_of_ble_eq_true rfl)) dL_law_241 ⟨Nat.le_of_ble_eq_true rfl, Nat.le_of_ble_eq_true rfl⟩) hS (fun q _ h => hFc q h) hFc (fun r_1 u1 t H1 locs ht hvm hw1 hB hz1 hk1 hS => ?_)
  obtain ⟨f1, rfl⟩ : ∃ z, z = u1 := ⟨_, rfl⟩
  obtain ⟨hP1, hK1, hD1⟩ := hB
  rw [ht] at hP1
  have hK1 := va_K.moved hvm.symm hK1
  obtain ⟨hP, hD⟩ := va_join (wr := [(om, .inr (1, [.int (nI u)]))]) (w1 := [(ox, .inr (0, [.int f1]))]) hP hD [0] [1] rfl rfl (by decide) (by decide) hk1 hFc hP1 hD1
  have hK := (hK.sub (tys' := []) [] rfl).app hK1
  generalize H1 = H at hP hS ⊢
  have hP : va_P (dC, dI) vwCl [(om, .inr (1, [.int (nI u)])), (ox, .inr (0, [.int f1]))] H := hP
  have hD : va_D (fun q : Nat => s.heap.size ≤ q) [(om, .inr (1, [.int (nI u)])), (ox, .inr (0, [.int f1]))] := hD
  have hK : va_K (dC, dI) vwCl [] s := hK
  refine lv_aload_n hx hb dL_law_244 rfl (lv_at hl 2 rfl) ?_
  refine lv_aload_n hx hb dL_law_245 rfl (lv_at hl 0 rfl) ?_
  refine lv_iload_n hx hb dL_law_246 rfl (lv_at hl 3 rfl) ?_
  refine lv_iconst (v := 1) hx hb dL_law_247 (by decide) ?_
  refine lv_iadd hx hb dL_law_248 ?_
  refine va_sld hx hb hX hbl hbA hS h_1 dL_law_249 ?_
  have hPc := hP.sub (ws' := [(om, .inr (1, [.int (nI u)]))]) [0] rfl
  have hDc := hD.sub (ws' := [(om, .inr (1, [.int (nI u)]))]) [0] (by decide) rfl
  have hKc := hK.sub (tys' := []) [] rfl
  have hFc := va_free (wc := [(om, .inr (1, [.int (nI u)]))]) hD hS hA [0] rfl
  refine va_calli (va_runV (As := [.int (xs (x3 + 1).toNatClampNeg)]) (rest := [.int r_1]) ⟨hx, hb, hml, hown, hts⟩ (metX1_hold l dC dI om H.size (nI u) (xs (x3 + 1).toNatClampNeg)) (cwV 1 hts (lw_V q105 q106 q107 q2 q108) rfl rfl rfl (by decide +kernel) ⟨Nat.le_of_ble_eq_true rfl, Nat.le_of_ble_eq_true rfl⟩) ⟨fun a U g mk q => by obtain ⟨q0, q1, qP, qK, qD⟩ := q; exact ⟨q0, q1, qP, va_K.moved (u := U) (U := U.calling g mk a) (Vm.Alike.refl U.vm) qK, qD⟩, va_recv hKc hPc (ci := 1) (q0 := 0) rfl rfl, fun U hU hW => ⟨rfl, by rw [hU], by rw [hU]; exact hPc, va_K.moved hW.alike hKc, hDc.weaken (fun _ _ _ _ => trivial)⟩⟩ rfl rfl hl.1 rfl (lv_room (Nat.le_of_ble_eq_true rfl)) dL_law_250 ⟨Nat.le_of_ble_eq_true rfl, Nat.le_of_ble_eq_true rfl⟩) hS (fun q _ h => hFc q h) hFc (fun r_2 u1 t H1 locs ht hvm hw2 hB hz1 hk1 hS => ?_)
  obtain ⟨f2, rfl⟩ : ∃ z, z = u1 := ⟨_, rfl⟩
  obtain ⟨hP1, hK1, hD1⟩ := hB
  rw [ht] at hP1
  have hK1 := va_K.moved hvm.symm hK1
  obtain ⟨hP, hD⟩ := va_join (wr := [(ox, .inr (0, [.int f1]))]) (w1 := [(om, .inr (1, [.int f2]))]) hP hD [0] [1] rfl rfl (by decide) (by decide) hk1 hFc hP1 hD1
  have hK := (hK.sub (tys' := []) [] rfl).app hK1
  generalize H1 = H at hP hS ⊢
  have hP : va_P (dC, dI) vwCl [(ox, .inr (0, [.int f1])), (om, .inr (1, [.int f2]))] H := hP
  have hD : va_D (fun q : Nat => s.heap.size ≤ q) [(ox, .inr (0, [.int f1])), (om, .inr (1, [.int f2]))] := hD
  have hK : va_K (dC, dI) vwCl [] s := hK
  have ef1 : f1 = nI v := hw1.2.trans ev
  have ef2 : f2 = nI v := hw2.2.trans ev
  have er1 : r_1 = nI v := hw1.1.trans ev
  have er2 : r_2 = nI v := hw2.1.trans ev
  rw [ef1, ef2] at hP hD
  refine lv_icmp_eq (tgt := 314) hx hb dL_law_253 (by decide) (fun c_1 => ?_) (fun c_1 => ?_)
  · exact K v H locs hv hP hD hS
  · exact absurd (er1.trans er2.symm) c_1
set_option maxHeartbeats 4000000 in
set_option maxRecDepth 100000 in
/-- case 6: fold -/
theorem law_c6 {p : Program} {l : Launch} {e : Env} {s : State} {m : MethodId} {below : List Frame} {meth : Method} {c : Code} {dC : Nat → ClassId} {dI : Nat → Nat → Nat} {b L : Nat} {xs : Nat → Int32} (C0 : lw_At p s m meth c b L xs) (hK : va_K (dC, dI) vwCl [] s) {u ox om : Nat} (hu : u < 256) {H : Heap} {locs : List Loc} (hP : va_P (dC, dI) vwCl [(ox, .inr (0, [.int (nI u)])), (om, .inr (1, [.int (nI u)]))] H) (hD : va_D (fun q : Nat => s.heap.size ≤ q) [(ox, .inr (0, [.int (nI u)])), (om, .inr (1, [.int (nI u)]))]) (hS : va_S (fun q : Nat => s.heap.size ≤ q) s.heap H locs) {x3 : Int32} (h_1 : vp_in (x3 + 1) L) (h_2 : vp_in (x3 + 2) L) (h_3 : vp_in (x3 + 3) L) {ls : Array Slot} (hl : lv_has ls 4 [(0, .ref b), (1, .ref ox), (2, .ref om), (3, .int x3)])
    (K : ∀ (u : Nat) (H : Heap) (locs : List Loc), u < 256 → va_P (dC, dI) vwCl [(ox, .inr (0, [.int (nI u)])), (om, .inr (1, [.int (nI u)]))] H → va_D (fun q : Nat => s.heap.size ≤ q) [(ox, .inr (0, [.int (nI u)])), (om, .inr (1, [.int (nI u)]))] → va_S (fun q : Nat => s.heap.size ≤ q) s.heap H locs → W p l e room_1 s m #[Value.ref b] below meth c H locs 2 2 (lw_Z below #[Value.ref b] s) (F0 m 314 ls [])) : W p l e room_1 s m #[Value.ref b] below meth c H locs 2 2 (lw_Z below #[Value.ref b] s) (F0 m 258 ls []) := by
  obtain ⟨hx, hb, hr, hml, hown, hts0, hX, hbl, hlocks, hgv⟩ := C0
  have hts : ∀ w ∈ lw_all, w.before #[Value.ref b] s = true := fun w h => hts0 w (lw_all_tbl h)
  have hA : ∀ q : Nat, s.heap.size ≤ q → (fun q : Nat => s.heap.size ≤ q) q := fun _ h => h
  have hbA : ¬ (fun q : Nat => s.heap.size ≤ q) b := Nat.not_le.mpr hbl
  obtain ⟨v, hv, e1, e2⟩ := ck_fold hu (xs (x3 + 1).toNatClampNeg) (xs (x3 + 2).toNatClampNeg)
  refine lv_aload_n hx hb dL_law_258 rfl (lv_at hl 1 rfl) ?_
  refine lv_aload_n hx hb dL_law_259 rfl (lv_at hl 0 rfl) ?_
  refine lv_iload_n hx hb dL_law_260 rfl (lv_at hl 3 rfl) ?_
  refine lv_iconst (v := 1) hx hb dL_law_261 (by decide) ?_
  refine lv_iadd hx hb dL_law_262 ?_
  refine va_sld hx hb hX hbl hbA hS h_1 dL_law_263 ?_
  refine lv_aload_n hx hb dL_law_264 rfl (lv_at hl 0 rfl) ?_
  refine lv_iload_n hx hb dL_law_265 rfl (lv_at hl 3 rfl) ?_
  refine lv_iconst (v := 2) hx hb dL_law_266 (by decide) ?_
  refine lv_iadd hx hb dL_law_267 ?_
  refine va_sld hx hb hX hbl hbA hS h_2 dL_law_268 ?_
  have hPc := hP.sub (ws' := [(ox, .inr (0, [.int (nI u)]))]) [0] rfl
  have hDc := hD.sub (ws' := [(ox, .inr (0, [.int (nI u)]))]) [0] (by decide) rfl
  have hKc := hK.sub (tys' := []) [] rfl
  have hFc := va_free (wc := [(ox, .inr (0, [.int (nI u)]))]) hD hS hA [0] rfl
  refine va_calli (va_runV (As := [.int (xs (x3 + 1).toNatClampNeg), .int (xs (x3 + 2).toNatClampNeg)]) (rest := []) ⟨hx, hb, hml, hown, hts⟩ (metX0_fold l dC dI ox H.size (nI u) (xs (x3 + 1).toNatClampNeg) (xs (x3 + 2).toNatClampNeg)) (cwV 2 hts (lw_V q61 q62 q63 q1 q64) rfl rfl rfl (by decide +kernel) ⟨Nat.le_of_ble_eq_true rfl, Nat.le_of_ble_eq_true rfl⟩) ⟨fun a U g mk q => by obtain ⟨q0, q1, qP, qK, qD⟩ := q; exact ⟨q0, q1, qP, va_K.moved (u := U) (U := U.calling g mk a) (Vm.Alike.refl U.vm) qK, qD⟩, va_recv hKc hPc (ci := 0) (q0 := 0) rfl rfl, fun U hU hW => ⟨rfl, by rw [hU], by rw [hU]; exact hPc, va_K.moved hW.alike hKc, hDc.weaken (fun _ _ _ _ => trivial)⟩⟩ rfl rfl hl.1 rfl (lv_room (Nat.le_of_ble_eq_true rfl)) dL_law_269 ⟨Nat.le_of_ble_eq_true rfl, Nat.le_of_ble_eq_true rfl⟩) hS (fun q _ h => hFc q h) hFc (fun r_1 u1 t H1 locs ht hvm hw1 hB hz1 hk1 hS => ?_)
  obtain ⟨f1, rfl⟩ : ∃ z, z = u1 := ⟨_, rfl⟩
  obtain ⟨hP1, hK1, hD1⟩ := hB
  rw [ht] at hP1
  have hK1 := va_K.moved hvm.symm hK1
  obtain ⟨hP, hD⟩ := va_join (wr := [(om, .inr (1, [.int (nI u)]))]) (w1 := [(ox, .inr (0, [.int f1]))]) hP hD [0] [1] rfl rfl (by decide) (by decide) hk1 hFc hP1 hD1
  have hK := (hK.sub (tys' := []) [] rfl).app hK1
  generalize H1 = H at hP hS ⊢
  have hP : va_P (dC, dI) vwCl [(om, .inr (1, [.int (nI u)])), (ox, .inr (0, [.int f1]))] H := hP
  have hD : va_D (fun q : Nat => s.heap.size ≤ q) [(om, .inr (1, [.int (nI u)])), (ox, .inr (0, [.int f1]))] := hD
  have hK : va_K (dC, dI) vwCl [] s := hK
  refine lv_aload_n hx hb dL_law_272 rfl (lv_at hl 2 rfl) ?_
  refine lv_aload_n hx hb dL_law_273 rfl (lv_at hl 0 rfl) ?_
  refine lv_iload_n hx hb dL_law_274 rfl (lv_at hl 3 rfl) ?_
  refine lv_iconst (v := 1) hx hb dL_law_275 (by decide) ?_
  refine lv_iadd hx hb dL_law_276 ?_
  refine va_sld hx hb hX hbl hbA hS h_1 dL_law_277 ?_
  refine lv_aload_n hx hb dL_law_278 rfl (lv_at hl 0 rfl) ?_
  refine lv_iload_n hx hb dL_law_279 rfl (lv_at hl 3 rfl) ?_
  refine lv_iconst (v := 2) hx hb dL_law_280 (by decide) ?_
  refine lv_iadd hx hb dL_law_281 ?_
  refine va_sld hx hb hX hbl hbA hS h_2 dL_law_282 ?_
  have hPc := hP.sub (ws' := [(om, .inr (1, [.int (nI u)]))]) [0] rfl
  have hDc := hD.sub (ws' := [(om, .inr (1, [.int (nI u)]))]) [0] (by decide) rfl
  have hKc := hK.sub (tys' := []) [] rfl
  have hFc := va_free (wc := [(om, .inr (1, [.int (nI u)]))]) hD hS hA [0] rfl
  refine va_calli (va_runV (As := [.int (xs (x3 + 1).toNatClampNeg), .int (xs (x3 + 2).toNatClampNeg)]) (rest := [.int r_1]) ⟨hx, hb, hml, hown, hts⟩ (metX1_fold l dC dI om H.size (nI u) (xs (x3 + 1).toNatClampNeg) (xs (x3 + 2).toNatClampNeg)) (cwV 2 hts (lw_V q109 q110 q111 q2 q112) rfl rfl rfl (by decide +kernel) ⟨Nat.le_of_ble_eq_true rfl, Nat.le_of_ble_eq_true rfl⟩) ⟨fun a U g mk q => by obtain ⟨q0, q1, qP, qK, qD⟩ := q; exact ⟨q0, q1, qP, va_K.moved (u := U) (U := U.calling g mk a) (Vm.Alike.refl U.vm) qK, qD⟩, va_recv hKc hPc (ci := 1) (q0 := 0) rfl rfl, fun U hU hW => ⟨rfl, by rw [hU], by rw [hU]; exact hPc, va_K.moved hW.alike hKc, hDc.weaken (fun _ _ _ _ => trivial)⟩⟩ rfl rfl hl.1 rfl (lv_room (Nat.le_of_ble_eq_true rfl)) dL_law_283 ⟨Nat.le_of_ble_eq_true rfl, Nat.le_of_ble_eq_true rfl⟩) hS (fun q _ h => hFc q h) hFc (fun r_2 u1 t H1 locs ht hvm hw2 hB hz1 hk1 hS => ?_)
  obtain ⟨f2, rfl⟩ : ∃ z, z = u1 := ⟨_, rfl⟩
  obtain ⟨hP1, hK1, hD1⟩ := hB
  rw [ht] at hP1
  have hK1 := va_K.moved hvm.symm hK1
  obtain ⟨hP, hD⟩ := va_join (wr := [(ox, .inr (0, [.int f1]))]) (w1 := [(om, .inr (1, [.int f2]))]) hP hD [0] [1] rfl rfl (by decide) (by decide) hk1 hFc hP1 hD1
  have hK := (hK.sub (tys' := []) [] rfl).app hK1
  generalize H1 = H at hP hS ⊢
  have hP : va_P (dC, dI) vwCl [(ox, .inr (0, [.int f1])), (om, .inr (1, [.int f2]))] H := hP
  have hD : va_D (fun q : Nat => s.heap.size ≤ q) [(ox, .inr (0, [.int f1])), (om, .inr (1, [.int f2]))] := hD
  have hK : va_K (dC, dI) vwCl [] s := hK
  have ef1 : f1 = nI v := hw1.2.trans e1
  have ef2 : f2 = nI v := hw2.2.trans e2
  have er1 : r_1 = nI v := hw1.1.trans e1
  have er2 : r_2 = nI v := hw2.1.trans e2
  rw [ef1, ef2] at hP hD
  refine lv_icmp_eq (tgt := 314) hx hb dL_law_286 (by decide) (fun c_1 => ?_) (fun c_1 => ?_)
  · exact K v H locs hv hP hD hS
  · exact absurd (er1.trans er2.symm) c_1
set_option maxHeartbeats 4000000 in
set_option maxRecDepth 100000 in
/-- case 7: power -/
theorem law_c7 {p : Program} {l : Launch} {e : Env} {s : State} {m : MethodId} {below : List Frame} {meth : Method} {c : Code} {dC : Nat → ClassId} {dI : Nat → Nat → Nat} {b L : Nat} {xs : Nat → Int32} (C0 : lw_At p s m meth c b L xs) (hK : va_K (dC, dI) vwCl [] s) {u ox om : Nat} (hu : u < 256) {H : Heap} {locs : List Loc} (hP : va_P (dC, dI) vwCl [(ox, .inr (0, [.int (nI u)])), (om, .inr (1, [.int (nI u)]))] H) (hD : va_D (fun q : Nat => s.heap.size ≤ q) [(ox, .inr (0, [.int (nI u)])), (om, .inr (1, [.int (nI u)]))]) (hS : va_S (fun q : Nat => s.heap.size ≤ q) s.heap H locs) {x3 : Int32} (h_1 : vp_in (x3 + 1) L) (h_2 : vp_in (x3 + 2) L) (h_3 : vp_in (x3 + 3) L) {ls : Array Slot} (hl : lv_has ls 4 [(0, .ref b), (1, .ref ox), (2, .ref om), (3, .int x3)])
    (K : ∀ (u : Nat) (H : Heap) (locs : List Loc), u < 256 → va_P (dC, dI) vwCl [(ox, .inr (0, [.int (nI u)])), (om, .inr (1, [.int (nI u)]))] H → va_D (fun q : Nat => s.heap.size ≤ q) [(ox, .inr (0, [.int (nI u)])), (om, .inr (1, [.int (nI u)]))] → va_S (fun q : Nat => s.heap.size ≤ q) s.heap H locs → W p l e room_1 s m #[Value.ref b] below meth c H locs 2 2 (lw_Z below #[Value.ref b] s) (F0 m 314 ls [])) : W p l e room_1 s m #[Value.ref b] below meth c H locs 2 2 (lw_Z below #[Value.ref b] s) (F0 m 291 ls []) := by
  obtain ⟨hx, hb, hr, hml, hown, hts0, hX, hbl, hlocks, hgv⟩ := C0
  have hts : ∀ w ∈ lw_all, w.before #[Value.ref b] s = true := fun w h => hts0 w (lw_all_tbl h)
  have hA : ∀ q : Nat, s.heap.size ≤ q → (fun q : Nat => s.heap.size ≤ q) q := fun _ h => h
  have hbA : ¬ (fun q : Nat => s.heap.size ≤ q) b := Nat.not_le.mpr hbl
  obtain ⟨N, hN, eN⟩ := ff_byte (xs (x3 + 1).toNatClampNeg)
  refine lv_aload_n hx hb dL_law_291 rfl (lv_at hl 1 rfl) ?_
  refine lv_aload_n hx hb dL_law_292 rfl (lv_at hl 0 rfl) ?_
  refine lv_iload_n hx hb dL_law_293 rfl (lv_at hl 3 rfl) ?_
  refine lv_iconst (v := 1) hx hb dL_law_294 (by decide) ?_
  refine lv_iadd hx hb dL_law_295 ?_
  refine va_sld hx hb hX hbl hbA hS h_1 dL_law_296 ?_
  refine ff_goon (v := (bf_pl 8 N 1 (nI u))) (rest := []) (va_runV (As := [.int (xs (x3 + 1).toNatClampNeg)]) ⟨hx, hb, hml, hown, hts⟩ (metX0_power l dC dI ox (nI u) (xs (x3 + 1).toNatClampNeg) N hN eN) (cwV 1 hts (lw_V q65 q66 q67 q1 q68) rfl rfl rfl (by decide +kernel) ⟨Nat.le_of_ble_eq_true rfl, Nat.le_of_ble_eq_true rfl⟩) ⟨fun a U g mk q => ⟨q.1, q.2.1, va_K.moved (u := U) (U := U.calling g mk a) (Vm.Alike.refl U.vm) q.2.2⟩, va_recv hK hP (ci := 0) (q0 := 0) rfl rfl, fun U hU hW => ⟨rfl, by rw [hU]; exact hP.sub [0] rfl, va_K.moved hW.alike hK⟩⟩ rfl rfl hl.1 rfl (lv_room (Nat.le_of_ble_eq_true rfl)) dL_law_297 ⟨Nat.le_of_ble_eq_true rfl, Nat.le_of_ble_eq_true rfl⟩) hS (fun H locs hk hS => ?_)
  have hP := ff_keep hP hk
  clear hk
  refine lv_aload_n hx hb dL_law_300 rfl (lv_at hl 2 rfl) ?_
  refine lv_aload_n hx hb dL_law_301 rfl (lv_at hl 0 rfl) ?_
  refine lv_iload_n hx hb dL_law_302 rfl (lv_at hl 3 rfl) ?_
  refine lv_iconst (v := 1) hx hb dL_law_303 (by decide) ?_
  refine lv_iadd hx hb dL_law_304 ?_
  refine va_sld hx hb hX hbl hbA hS h_1 dL_law_305 ?_
  refine ff_goon (v := (mp_pl (nI u) N 1)) (rest := [.int (bf_pl 8 N 1 (nI u))]) (va_runV (As := [.int (xs (x3 + 1).toNatClampNeg)]) ⟨hx, hb, hml, hown, hts⟩ (metX1_power l dC dI om (nI u) (xs (x3 + 1).toNatClampNeg) N hN eN) (cwV 1 hts (lw_V q113 q114 q115 q2 q116) rfl rfl rfl (by decide +kernel) ⟨Nat.le_of_ble_eq_true rfl, Nat.le_of_ble_eq_true rfl⟩) ⟨fun a U g mk q => ⟨q.1, q.2.1, va_K.moved (u := U) (U := U.calling g mk a) (Vm.Alike.refl U.vm) q.2.2⟩, va_recv hK hP (ci := 1) (q0 := 1) rfl rfl, fun U hU hW => ⟨rfl, by rw [hU]; exact hP.sub [1] rfl, va_K.moved hW.alike hK⟩⟩ rfl rfl hl.1 rfl (lv_room (Nat.le_of_ble_eq_true rfl)) dL_law_306 ⟨Nat.le_of_ble_eq_true rfl, Nat.le_of_ble_eq_true rfl⟩) hS (fun H locs hk hS => ?_)
  have hP := ff_keep hP hk
  clear hk
  refine lv_icmp_eq (tgt := 314) hx hb dL_law_309 (by decide) (fun c_1 => ?_) (fun c_1 => ?_)
  · exact K u H locs hu hP hD hS
  · exact absurd (ck_power hu N hN) c_1
end
section
/-! THE LOOP AND THE START -/
theorem law_gt {L i : Nat} (hL : L ≤ 288) (hi : i ≤ L) (h : L < i + 6) : Int32.ofNat L - 6 < nI i := by
  have e : (Int32.ofNat L - 6).toInt = (L : Int) - (6 : Nat) := pk_sub_toInt (a := L) (b := 6) (by omega) (by omega)
  rw [Int32.lt_iff_toInt_lt, e, nI_toInt (by omega)]
  omega
theorem law_in {L i k : Nat} (hL : L ≤ 288) (h : i + k < L) : vp_in (nI i + nI k) L := by
  rw [nI_add]
  exact vp_in_nI h (by omega)
set_option maxHeartbeats 4000000 in
set_option maxRecDepth 100000 in
/-- the loop at its head: i ints are read, both objects hold u -/
theorem law_loop {p : Program} {l : Launch} {e : Env} {s : State} {m : MethodId} {below : List Frame} {meth : Method} {c : Code} {dC : Nat → ClassId} {dI : Nat → Nat → Nat} {b L : Nat} {xs : Nat → Int32} (hL : L ≤ 288) (C0 : lw_At p s m meth c b L xs) (hK : va_K (dC, dI) vwCl [] s) {ox om : Nat} :
    ∀ (n i u : Nat) (H : Heap) (locs : List Loc) (ls : Array Slot), i ≤ L → L + 1 ≤ i + n → u < 256 → va_P (dC, dI) vwCl [(ox, .inr (0, [.int (nI u)])), (om, .inr (1, [.int (nI u)]))] H → va_D (fun q : Nat => s.heap.size ≤ q) [(ox, .inr (0, [.int (nI u)])), (om, .inr (1, [.int (nI u)]))] → va_S (fun q : Nat => s.heap.size ≤ q) s.heap H locs → lv_has ls 4 [(0, .ref b), (1, .ref ox), (2, .ref om), (3, .int (nI i))] → W p l e room_1 s m #[Value.ref b] below meth c H locs 2 2 (lw_Z below #[Value.ref b] s) (F0 m 18 ls []) := by
  obtain ⟨hx, hb, hr, hml, hown, hts0, hX, hbl, hlocks, hgv⟩ := id C0
  have hbA : ¬ (fun q : Nat => s.heap.size ≤ q) b := Nat.not_le.mpr hbl
  intro n
  induction n with
  | zero =>
    intro i u H locs ls h1 h2
    exact absurd h2 (by omega)
  | succ n ih =>
    intro i u H locs ls hi hin hu hP hD hS hl
    refine lv_iload_n hx hb dL_law_18 rfl (lv_at hl 3 rfl) ?_
    refine lv_aload_n hx hb dL_law_19 rfl (lv_at hl 0 rfl) ?_
    refine va_slen hx hb hX hbl hbA hS dL_law_20 ?_
    refine lv_bipush (v := 6) hx hb dL_law_21 (by decide) ?_
    refine lv_isub hx hb dL_law_23 ?_
    refine lv_icmp_gt (tgt := 320) hx hb dL_law_24 (by decide) (fun c_1 => ?_) (fun c_1 => ?_)
    · refine lv_iconst (v := 1) hx hb dL_law_320 (by decide) ?_
      refine va_forget (fun q hq => hS.2.2 q hq) ?_
      refine W.widen (k := 600000) (n := 7290000) (Nat.le_of_ble_eq_true rfl) (Nat.le_of_ble_eq_true rfl) ?_
      exact lw_ret hx hb hr hlocks dL_law_321
    · have h6 : i + 6 ≤ L := by
        rcases Nat.lt_or_ge L (i + 6) with q | q
        · exact absurd (law_gt hL hi q) c_1
        · exact q
      have h_0 : vp_in (nI i) L := vp_in_nI (by omega) (by omega)
      have h_1 : vp_in (nI i + 1) L := law_in (k := 1) hL (by omega)
      have h_2 : vp_in (nI i + 2) L := law_in (k := 2) hL (by omega)
      have h_3 : vp_in (nI i + 3) L := law_in (k := 3) hL (by omega)
      have K : ∀ (u : Nat) (H : Heap) (locs : List Loc), u < 256 → va_P (dC, dI) vwCl [(ox, .inr (0, [.int (nI u)])), (om, .inr (1, [.int (nI u)]))] H → va_D (fun q : Nat => s.heap.size ≤ q) [(ox, .inr (0, [.int (nI u)])), (om, .inr (1, [.int (nI u)]))] → va_S (fun q : Nat => s.heap.size ≤ q) s.heap H locs → W p l e room_1 s m #[Value.ref b] below meth c H locs 2 2 (lw_Z below #[Value.ref b] s) (F0 m 314 ls []) := by
        intro u H locs hu hP hD hS
        refine lv_iinc (v := (nI (i + 6))) (lv' := [(3, .int (nI (i + 6))), (0, .ref b), (1, .ref ox), (2, .ref om)]) hx hb dL_law_314 hl (k := 3) rfl (by rw [show Int32.ofInt 6 = nI 6 by decide, nI_add]) (by decide) rfl (fun ls hl => ?_)
        refine lv_goto (tgt := 18) hx hb dL_law_317 (by decide) ?_
        exact ih (i + 6) u H locs ls h6 (by omega) hu hP hD hS (lv_sub hl [1, 2, 3, 0] rfl)
      refine lv_aload_n hx hb dL_law_27 rfl (lv_at hl 0 rfl) ?_
      refine lv_iload_n hx hb dL_law_28 rfl (lv_at hl 3 rfl) ?_
      refine va_sld hx hb hX hbl hbA hS h_0 dL_law_29 ?_
      refine lv_bipush (v := 7) hx hb dL_law_30 (by decide) ?_
      refine lv_iand hx hb dL_law_32 ?_
      obtain ⟨j, hj, ej⟩ : ∃ j : Nat, j < 8 ∧ xs (nI i).toNatClampNeg &&& 7 = nI j := pk_andE _ 3 (by decide)
      refine lv_topi (fun y_1 ey_1 => ?_)
      rw [ej] at ey_1
      subst ey_1
      have hc : j = 0 ∨ j = 1 ∨ j = 2 ∨ j = 3 ∨ j = 4 ∨ j = 5 ∨ j = 6 ∨ j = 7 := by omega
      rcases hc with rfl | rfl | rfl | rfl | rfl | rfl | rfl | rfl
      · refine lv_tableIn (off := 47) (tgt := 80) hx hb dL_law_33 (by decide) (by decide) (by decide) (by decide) ?_
        exact law_c0 C0 hK hu hP hD hS h_1 h_2 h_3 hl K
      · refine lv_tableIn (off := 80) (tgt := 113) hx hb dL_law_33 (by decide) (by decide) (by decide) (by decide) ?_
        exact law_c1 C0 hK hu hP hD hS h_1 h_2 h_3 hl K
      · refine lv_tableIn (off := 123) (tgt := 156) hx hb dL_law_33 (by decide) (by decide) (by decide) (by decide) ?_
        exact law_c2 C0 hK hu hP hD hS h_1 h_2 h_3 hl K
      · refine lv_tableIn (off := 146) (tgt := 179) hx hb dL_law_33 (by decide) (by decide) (by decide) (by decide) ?_
        exact law_c3 C0 hK hu hP hD hS h_1 h_2 h_3 hl K
      · refine lv_tableIn (off := 169) (tgt := 202) hx hb dL_law_33 (by decide) (by decide) (by decide) (by decide) ?_
        exact law_c4 C0 hK hu hP hD hS h_1 h_2 h_3 hl K
      · refine lv_tableIn (off := 202) (tgt := 235) hx hb dL_law_33 (by decide) (by decide) (by decide) (by decide) ?_
        exact law_c5 C0 hK hu hP hD hS h_1 h_2 h_3 hl K
      · refine lv_tableIn (off := 225) (tgt := 258) hx hb dL_law_33 (by decide) (by decide) (by decide) (by decide) ?_
        exact law_c6 C0 hK hu hP hD hS h_1 h_2 h_3 hl K
      · refine lv_tableIn (off := 258) (tgt := 291) hx hb dL_law_33 (by decide) (by decide) (by decide) (by decide) ?_
        exact law_c7 C0 hK hu hP hD hS h_1 h_2 h_3 hl K
set_option maxHeartbeats 4000000 in
set_option maxRecDepth 100000 in
theorem whole_start {p : Program} {e : Env} {s : State} {m : MethodId} {below : List Frame} {meth : Method} {c : Code} (l : Launch) (hflags : l.flags = flags0) {b L : Nat} {xs : Nat → Int32} (hL : L ≤ 288) (C0 : lw_At p s m meth c b L xs) : W p l e room_1 s m #[Value.ref b] below meth c s.heap [] 0 0 (lw_Z below #[Value.ref b] s) (entryFrame m ([Value.ref b] : List Value).toArray 4) := by
  obtain ⟨hx, hb, hr, hml, hown, hts0, hX, hbl, hlocks, hgv⟩ := id C0
  have hts : ∀ w ∈ lw_all, w.before #[Value.ref b] s = true := fun w h => hts0 w (lw_all_tbl h)
  have hA : ∀ q : Nat, s.heap.size ≤ q → (fun q : Nat => s.heap.size ≤ q) q := fun _ h => h
  obtain ⟨cl0, iS0, hKn0⟩ := u_known (C := RX0) (T := TX0) (N := 1) (n := 1) hts0 (fun w h => lw_all_tbl (in_X0 w h)) (hts0 _ (lw_all_tbl q5))
  obtain ⟨cl1, iS1, hKn1⟩ := u_known (C := RX1) (T := TX1) (N := 1) (n := 1) hts0 (fun w h => lw_all_tbl (in_X1 w h)) (hts0 _ (lw_all_tbl q70))
  obtain ⟨dC, dI, hKc⟩ : ∃ (dC : Nat → ClassId) (dI : Nat → Nat → Nat), ∀ (k : Nat) (q : vw_C), vwCl[k]? = some q → u_Kn s q.1 q.2.1 q.2.2 (dC k) (dI k) := by
    refine ⟨fun k => if k = 0 then cl0 else cl1, fun k => if k = 0 then iS0 else iS1, ?_⟩
    intro k q hq
    match k, hq with
    | 0, hq => cases hq; exact hKn0
    | 1, hq => cases hq; exact hKn1
    | k + 2, hq => simp [vwCl] at hq
  have hS : va_S (fun q : Nat => s.heap.size ≤ q) s.heap s.heap [] := va_S.rf
  have hK : va_K (dC, dI) vwCl [] s := ⟨hKc, fun k q h => by simp at h⟩
  have hP : va_P (dC, dI) vwCl [] s.heap := fun k q h => by simp at h
  have hD : va_D (fun q : Nat => s.heap.size ≤ q) [] := ⟨fun i j p q h => by simp at h, fun k q h => by simp at h⟩
  have hl := lv_entry ([.ref b]) (n := 4) (Nat.le_of_ble_eq_true rfl)
  rw [lg_entry_eq]
  generalize (lg_sl ([.ref b]) ++ List.replicate (4 - (lg_sl ([.ref b])).length) Slot.unset).toArray = ls at hl ⊢
  have hl : lv_has ls 4 [(0, .ref b)] := hl
  refine va_new (ci := 0) (fs := [.int 0]) (C := RX0) (T := TX0) (N := 1) hx hb hts in_X0 tyX0 tyX0_ok hown (hts _ q4) (hts _ q5) (hts _ q1) hK hP hD hS hA rfl (fun j hj => by rcases (show j = 0 by omega) with rfl <;> rfl) (Nat.le_of_ble_eq_true rfl) (Nat.le_of_ble_eq_true rfl) dL_law_0 (fun qa H hP hD hS => ?_)
  have hP : va_P (dC, dI) vwCl [(qa, .inr (0, [.int 0]))] H := hP
  have hD : va_D (fun q : Nat => s.heap.size ≤ q) [(qa, .inr (0, [.int 0]))] := hD
  refine W.widen (k := 1) (n := 1) (Nat.le_of_ble_eq_true rfl) (Nat.le_of_ble_eq_true rfl) ?_
  refine lv_dup hx hb dL_law_3 rfl ?_
  have hPc := hP.sub (ws' := [(qa, .inr (0, [.int 0]))]) [0] rfl
  have hDc := hD.sub (ws' := [(qa, .inr (0, [.int 0]))]) [0] (by decide) rfl
  have hKc := hK.sub (tys' := []) [] rfl
  have hFc := va_free (wc := [(qa, .inr (0, [.int 0]))]) hD hS hA [0] rfl
  refine va_callv (va_runI (As := []) (rest := [.ref qa]) ⟨hx, hb, hml, hown, hts⟩ (metX0_init l dC dI qa H.size 0) (cwI 0 hts (lw_meth q8) rfl rfl rfl (hts _ q1) (hts _ q6) (hts _ q7) rfl (by decide +kernel) ⟨Nat.le_of_ble_eq_true rfl, Nat.le_of_ble_eq_true rfl⟩) ⟨fun a U g mk q => by obtain ⟨q0, q1, qP, qK, qD⟩ := q; exact ⟨q0, q1, qP, va_K.moved (u := U) (U := U.calling g mk a) (Vm.Alike.refl U.vm) qK, qD⟩, fun U hU hW => ⟨rfl, by rw [hU], by rw [hU]; exact hPc, va_K.moved hW.alike hKc, hDc.weaken (fun _ _ _ _ => trivial)⟩⟩ rfl rfl hl.1 rfl (lv_room (Nat.le_of_ble_eq_true rfl)) dL_law_4 ⟨Nat.le_of_ble_eq_true rfl, Nat.le_of_ble_eq_true rfl⟩) hS (fun q _ h => hFc q h) hFc (fun u t H1 locs1 ht hvm hw hB hz1 hk1 hS => ?_)
  have hw : u = nI 1 := hw
  subst hw
  obtain ⟨hP1, hK1, hD1⟩ := hB
  rw [ht] at hP1
  have hK1 := va_K.moved hvm.symm hK1
  obtain ⟨hP, hD⟩ := va_join (wr := []) (w1 := [(qa, .inr (0, [.int (nI 1)]))]) hP hD [0] [] rfl rfl (by decide) (by decide) hk1 hFc hP1 hD1
  have hK := (hK.sub (tys' := []) [] rfl).app hK1
  generalize H1 = H at hP hS ⊢
  have hP : va_P (dC, dI) vwCl [(qa, .inr (0, [.int (nI 1)]))] H := hP
  have hD : va_D (fun q : Nat => s.heap.size ≤ q) [(qa, .inr (0, [.int (nI 1)]))] := hD
  have hK : va_K (dC, dI) vwCl [] s := hK
  refine lv_astore_n (lv' := [(1, .ref qa), (0, .ref b)]) hx hb dL_law_7 rfl hl (by decide) rfl (fun ls hl => ?_)
  refine va_new (ci := 1) (fs := [.int 0]) (C := RX1) (T := TX1) (N := 1) hx hb hts in_X1 tyX1 tyX1_ok hown (hts _ q69) (hts _ q70) (hts _ q2) hK hP hD hS hA rfl (fun j hj => by rcases (show j = 0 by omega) with rfl <;> rfl) (Nat.le_of_ble_eq_true rfl) (Nat.le_of_ble_eq_true rfl) dL_law_8 (fun qb H hP hD hS => ?_)
  have hP : va_P (dC, dI) vwCl [(qa, .inr (0, [.int (nI 1)])), (qb, .inr (1, [.int 0]))] H := hP
  have hD : va_D (fun q : Nat => s.heap.size ≤ q) [(qa, .inr (0, [.int (nI 1)])), (qb, .inr (1, [.int 0]))] := hD
  refine W.widen (k := 2) (n := 2) (Nat.le_of_ble_eq_true rfl) (Nat.le_of_ble_eq_true rfl) ?_
  refine lv_dup hx hb dL_law_11 rfl ?_
  have hPc := hP.sub (ws' := [(qb, .inr (1, [.int 0]))]) [1] rfl
  have hDc := hD.sub (ws' := [(qb, .inr (1, [.int 0]))]) [1] (by decide) rfl
  have hKc := hK.sub (tys' := []) [] rfl
  have hFc := va_free (wc := [(qb, .inr (1, [.int 0]))]) hD hS hA [1] rfl
  refine va_callv (va_runI (As := []) (rest := [.ref qb]) ⟨hx, hb, hml, hown, hts⟩ (metX1_init l dC dI qb H.size 0) (cwI 0 hts (lw_meth q73) rfl rfl rfl (hts _ q2) (hts _ q71) (hts _ q72) rfl (by decide +kernel) ⟨Nat.le_of_ble_eq_true rfl, Nat.le_of_ble_eq_true rfl⟩) ⟨fun a U g mk q => by obtain ⟨q0, q1, qP, qK, qD⟩ := q; exact ⟨q0, q1, qP, va_K.moved (u := U) (U := U.calling g mk a) (Vm.Alike.refl U.vm) qK, qD⟩, fun U hU hW => ⟨rfl, by rw [hU], by rw [hU]; exact hPc, va_K.moved hW.alike hKc, hDc.weaken (fun _ _ _ _ => trivial)⟩⟩ rfl rfl hl.1 rfl (lv_room (Nat.le_of_ble_eq_true rfl)) dL_law_12 ⟨Nat.le_of_ble_eq_true rfl, Nat.le_of_ble_eq_true rfl⟩) hS (fun q _ h => hFc q h) hFc (fun u t H1 locs1 ht hvm hw hB hz1 hk1 hS => ?_)
  have hw : u = nI 1 := hw
  subst hw
  obtain ⟨hP1, hK1, hD1⟩ := hB
  rw [ht] at hP1
  have hK1 := va_K.moved hvm.symm hK1
  obtain ⟨hP, hD⟩ := va_join (wr := [(qa, .inr (0, [.int (nI 1)]))]) (w1 := [(qb, .inr (1, [.int (nI 1)]))]) hP hD [1] [0] rfl rfl (by decide) (by decide) hk1 hFc hP1 hD1
  have hK := (hK.sub (tys' := []) [] rfl).app hK1
  generalize H1 = H at hP hS ⊢
  have hP : va_P (dC, dI) vwCl [(qa, .inr (0, [.int (nI 1)])), (qb, .inr (1, [.int (nI 1)]))] H := hP
  have hD : va_D (fun q : Nat => s.heap.size ≤ q) [(qa, .inr (0, [.int (nI 1)])), (qb, .inr (1, [.int (nI 1)]))] := hD
  have hK : va_K (dC, dI) vwCl [] s := hK
  refine lv_astore_n (lv' := [(2, .ref qb), (1, .ref qa), (0, .ref b)]) hx hb dL_law_15 rfl hl (by decide) rfl (fun ls hl => ?_)
  refine lv_iconst (v := 0) hx hb dL_law_16 (by decide) ?_
  refine lv_istore_n (lv' := [(3, .int 0), (2, .ref qb), (1, .ref qa), (0, .ref b)]) hx hb dL_law_17 rfl hl (by decide) rfl (fun ls hl => ?_)
  exact law_loop hL C0 hK (L + 1) 0 1 _ _ ls (Nat.zero_le L) (by omega) (by decide) hP hD hS (lv_sub hl [3, 2, 1, 0] rfl)
end
section
-- ===== YOUR PART ENDS =====
set_option maxHeartbeats 4000000 in
theorem lw_walk (l : Launch) (hflags : l.flags = flags0) (b : Addr) (xs : List Int32) : MetFree l x (headSpec (Jvm.Cond.code x code maxLocals ret :: tables_1) room_1) (lw_P b xs) (fun _ _ _ _ _ => True) lw_Q := by
  refine MetFree.of_bodyS (code := code) (maxLocals := maxLocals) (ret := ret) (by decide) ?_ ?_
  · intro args s m h hn
    obtain ⟨meth, c, h1, h2, h3, h4, h5, h6, -, -⟩ := Cond.code_spec hn (atoms_spec (ws := Jvm.Cond.code x code maxLocals ret :: tables_1) h _ List.mem_cons_self)
    exact ⟨meth, c, h1, h2, h3, h4, h5, h6⟩
  · intro p e s m args below meth c s₁ B hml0 hP _
    obtain ⟨rfl, hx, hbd, hgv⟩ := hP
    obtain ⟨scr, harrAt, hlist, hof, hsmall⟩ := hx
    obtain ⟨hcb, hkn, -, -⟩ := State.arrayAt?_spec harrAt
    have hown : s.vm.findClass R_law = some m.cls := findClass_of_methodNamed B.named
    have hts0 : ∀ c ∈ (Jvm.Cond.code x code maxLocals ret :: tables_1), c.before #[Value.ref b] s = true := atoms_spec (ws := Jvm.Cond.code x code maxLocals ret :: tables_1) B.pre
    have hts : ∀ w ∈ lw_tbl, w.before #[Value.ref b] s = true := k2_hts_sels lw_privs (fun w hw => hts0 w (List.mem_cons_of_mem _ hw)) lw_privs_ok
    have hml : c.maxLocals = 4 := B.maxLocals_eq (hts0 _ List.mem_cons_self)
    have X₀ : Stand p l e room_1 s m #[Value.ref b] below meth c s₁ [] 0 0 := Stand.of_body B
    have hh0 : s₁.heap = s.heap := by rw [B.state]; rfl
    have hsz : scr.slots.size = xs.length := by rw [← Array.length_toList, hlist, List.length_map]
    have hval : ∀ j : Nat, j < xs.length → scr.slots[j]? = some (.int (xs.getD j 0)) := fun j hj => by
      rw [← Array.getElem?_toList, hlist]
      simp [hj]
    have hbl : b < s.heap.size := (Array.getElem?_eq_some_iff.mp hcb).1
    have hX : va_X b xs.length (fun j => xs.getD j 0) s s.heap := ⟨scr, hcb, hof, hkn, hsz, hval⟩
    have K : W p l e room_1 s m #[Value.ref b] below meth c s₁.heap [] 0 0 (lw_Z below #[Value.ref b] s) (entryFrame m ([Value.ref b] : List Value).toArray 4) := by
      rw [hh0]
      exact whole_start l hflags hbd ⟨B.exec, B.bytes, B.returns, hml, hown, hts, hX, hbl, B.notSynchronized, hgv⟩
    obtain ⟨t, a1, o, b1, b2, b3⟩ := K s₁ rfl X₀
    exact ⟨t, o, a1, b1, b2, b3⟩
theorem lw_pre_spec {args : Array Value} {s : State} (h : (Jvm.Cond.and given_1 narrow_1).before args s = true) (hr : rest_1_c.before args s = true) : ∃ (b : Addr) (xs : List Int32), lw_P b xs args s := by
  have hs := flat_of_before _ h
  have hq := flat_of_before _ hr
  have hc : (Cond.count 1).before args s = true := hs _ (by decide +kernel)
  have harr : (Cond.arrayOf (.arg 0) .int).before args s = true := hs _ (by decide +kernel)
  have hle : (Cond.le (.length (.arg 0)) (.int 288)).before args s = true := hs _ (by decide +kernel)
  have hlen : (Cond.isInt (.length (.arg 0))).before args s = true := hq _ (by decide +kernel)
  have hall : (Cond.all (.arg 0) (.isInt (.elem (.arg 0) (.index 0)))).before args s = true := hq _ (by decide +kernel)
  obtain ⟨b, xs, hb, hx⟩ := State.ints_of_pre rfl harr hlen hall
  have hsm : xs.length < 2 ^ 31 := hx.choose_spec.2.2.2
  have hev : (Term.length (.arg 0)).eval args s none [] s = some (.int xs.length.toInt32) := hx.length_eval hb
  have hv := Cond.le_ints hev (show (Term.int 288).eval args s none [] s = some (.int 288) from rfl)
  have hd : xs.length.toInt32 ≤ 288 := by
    simpa [Cond.before, Cond.holds, hv] using hle
  have hN : xs.length ≤ 288 := (Int32.ofNat_le_ofNat hsm (by decide)).mp (show Int32.ofNat xs.length ≤ Int32.ofNat 288 from hd)
  exact ⟨b, xs, Cond.one_arg hc (show args[0]? = some (.ref b) from hb), hx, hN, h⟩
theorem lw_comes (l : Launch) (hflags : l.flags = flags0) : Comes l x (Jvm.Cond.code x code maxLocals ret :: tables_1) room_1 (fun tb e args s => Calls_1 tb e args s ∧ rest_1 tb e args s ∧ Pre_1 tb e args s)
    (fun _ _ args s o t => lw_Q args s o t) := by
  intro p e ha hc hk s m args below hf hfit hheap happ hpre
  obtain ⟨b, xs, hP⟩ := lw_pre_spec hpre.2.2 hpre.2.1
  obtain ⟨k, o, h1, h2, h3, hQ⟩ := lw_walk l hflags b xs p e ha hc hk s m args below hf ((Spec.applies_iff_loose hf).mp happ).1 hP trivial
  exact ⟨k, o, h1, h2, h3, hQ⟩
theorem lw_frame {s t : State} {o : Outcome} {args : Array Value} (h : Framed s o t [] 600000 7290000) :
    Framed s o t (fieldLocs frame_1_writes args s ++ arrayLocs frame_1_arrays args s ++ staticLocs frame_1_statics s) 600000 7290000 := h
theorem lw_limb (L : Cond) (hL : ∀ (args : Array Value) (s t : State), L.after args s (.returned (some (.int 1))) t = true) :
    ArmFor flags0 classFile x code maxLocals ret World_1 tables_1 room_1 Calls_1 rest_1 Pre_1
      (fun tb e a s o t => postC L tb e a s o t ∧ Framed s o t (fieldLocs frame_1_writes a s ++ arrayLocs frame_1_arrays a s ++ staticLocs frame_1_statics s) 600000 7290000) := by
  intro l hflags _ _ p e ha hc hk s m args below hf hfit hheap happ hpre
  obtain ⟨k, o, h1, h2, h3, rfl, hF⟩ := lw_comes l hflags p e ha hc hk s m args below hf hfit hheap happ hpre
  exact ⟨k, _, h1, h2, h3, hL args s _, lw_frame hF⟩
theorem i_vc : Claimed_1_1 ∧ Claimed_1_2 := ⟨lw_limb limb_1_1 (fun args s t => by simp [limb_1_1, Cond.after, Cond.holds, Cond.value]), lw_limb limb_1_2 (fun args s t => Cond.after_iff.mpr (by
  first | (rw [show limb_1_2 = Cond.eq .result (.int 1) from rfl, Cond.eq_ints (x := 1) (y := 1) rfl rfl]; simp; done) | (simp [limb_1_2, Cond.value, Term.eval]; done)))⟩
end
