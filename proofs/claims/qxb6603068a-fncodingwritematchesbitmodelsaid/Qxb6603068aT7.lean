import Derived.Test.Qxb6603068aT6
namespace Go.Lx
open Go.Proofs Go.RowKit

theorem i64_pow {e : Nat} (he : e ≤ 17) : IntKind.i64.wrap (1 * 2 ^ (min ((e : Nat) : Int).toNat IntKind.i64.bits)) = ((2 ^ e : Nat) : Int) := by
  have h1 : min ((e : Nat) : Int).toNat IntKind.i64.bits = e := by
    rw [Int.toNat_natCast]
    show min e 64 = e
    omega
  have h2 := pow17 he
  have h3 : ((2 : Int) ^ e) = ((2 ^ e : Nat) : Int) := by rw [Int.natCast_pow]; rfl
  rw [h1, Int.one_mul, h3]
  generalize 2 ^ e = P at *
  exact i64w (by omega) (by omega)
theorem Src.At.up {s : Src} {w w' : World} (h : s.At w) (hu : Up w w') : s.At w' := ⟨fun t u h1 h2 => hu.cell (h.l t u h1 h2), fun i hi => hu.cell (h.c i hi), fun i hi => hu.cell (h.y i hi)⟩
theorem addr_of {k : IntKind} {w : World} {a : Option Addr} {xs : List Nat} (h : Ints k w a (natL xs)) : ∃ bk o, 0 < xs.length → a = some ⟨bk, o, none⟩ := by
  by_cases h0 : 0 < xs.length
  · obtain ⟨bk, o, e, _⟩ := natsGet h h0
    exact ⟨bk, o, fun _ => e⟩
  · exact ⟨0, 0, fun h => absurd h h0⟩
theorem cells_of {k : IntKind} {w : World} {a : Option Addr} {xs : List Nat} {bk o : Nat} (h : Ints k w a (natL xs)) (ha : 0 < xs.length → a = some ⟨bk, o, none⟩) : ∀ i, (hi : i < xs.length) → w.cell? ⟨bk, o + i, none⟩ = some (.int k (xs[i] : Int)) := by
  intro i hi
  obtain ⟨bk', o', e, hc⟩ := natsGet h hi
  have := ha (by omega)
  rw [this] at e
  cases e
  exact hc i hi
theorem and_wrap (y x : Nat) : IntKind.u64.wrap ((BitVec.ofInt IntKind.u64.bits (y : Int) &&& BitVec.ofInt IntKind.u64.bits (x : Int)).toNat : Int) = (((y &&& x) % 18446744073709551616 : Nat) : Int) := by
  have h1 : (BitVec.ofInt 64 (y : Int) &&& BitVec.ofInt 64 (x : Int)).toNat = (y &&& x) % 18446744073709551616 := by
    rw [BitVec.toNat_and, BitVec.ofInt_natCast, BitVec.ofInt_natCast, BitVec.toNat_ofNat, BitVec.toNat_ofNat, ← Nat.and_mod_two_pow, two64]
  show IntKind.u64.wrap ((BitVec.ofInt 64 (y : Int) &&& BitVec.ofInt 64 (x : Int)).toNat : Int) = _
  rw [h1, wrap_nat, Nat.mod_mod]
theorem mask_v {n : Nat} (h : n ≤ 7) : IntKind.u64.wrap (IntKind.u64.wrap (1 * 2 ^ (min ((n : Nat) : Int).toNat IntKind.u64.bits)) - 1) = ((2 ^ n - 1 : Nat) : Int) := by
  have : n = 0 ∨ n = 1 ∨ n = 2 ∨ n = 3 ∨ n = 4 ∨ n = 5 ∨ n = 6 ∨ n = 7 := by omega
  rcases this with rfl | rfl | rfl | rfl | rfl | rfl | rfl | rfl <;> decide
theorem low_bits {acc n : Nat} (h : n ≤ 7) : (acc &&& (2 ^ n - 1)) % 18446744073709551616 % 256 = acc % 2 ^ n := by
  rw [Nat.and_two_pow_sub_one_eq_mod]
  have : n = 0 ∨ n = 1 ∨ n = 2 ∨ n = 3 ∨ n = 4 ∨ n = 5 ∨ n = 6 ∨ n = 7 := by omega
  rcases this with rfl | rfl | rfl | rfl | rfl | rfl | rfl | rfl <;> simp <;> omega
theorem build34 (a : Option Addr) (l c : Nat) (x y z : Int) (w : World) : (Instr.build 34 #[(0, .slice a l c), (1, .int .u8 x), (2, .int .u64 y), (3, .int .u64 z)]).run Try.prog w = .ok (.agg #[.slice a l c, .int .u8 x, .int .u64 y, .int .u64 z]) w := by kernel_rfl
theorem zero34 : ZeroTy Try.prog 34 [.slice none 0 0, .int .u8 0, .int .u64 0, .int .u64 0] := ZeroTy.of (z := .agg #[.slice none 0 0, .int .u8 0, .int .u64 0, .int .u64 0]) (by kernel_rfl) rfl
theorem zero37 : ZeroTy Try.prog 37 (List.replicate 6 (.int .i64 0)) := ZeroTy.of (z := .agg (List.replicate 6 (Value.int .i64 0)).toArray) (by kernel_rfl) rfl
theorem zero41 : ZeroTy Try.prog 41 (List.replicate 3072 (.int .u32 0)) := ZeroTy.of (z := .agg (List.replicate 3072 (Value.int .u32 0)).toArray) (by kernel_rfl) rfl
theorem cod0 : List.replicate 3072 (Value.int .u32 0) = codC 6 (fun _ => 0) := by
  apply List.ext_getElem?
  intro i
  by_cases h : i < 6 * 512
  · rw [codC_get h, List.getElem?_replicate, if_pos (by omega)]; rfl
  · rw [List.getElem?_eq_none (by rw [List.length_replicate]; omega), List.getElem?_eq_none (by rw [codC_len]; omega)]

set_option maxHeartbeats 16000000 in
theorem bm_c (w : World) (lv cv ov yv : Value) (k : Nat) (f : Nat → Nat → Nat) (ch ys : List Nat) (os : List Int) (bits al : Int) (acc n : Nat) (hl : LV w lv k f) (hk : k ≤ 9223372036854775807) (hf8 : ∀ t u, f t u < 256)
    (hc : IntsV .u8 w cv (natL ch)) (hcl : ch.length ≤ 9223372036854775807) (hc8 : ∀ x ∈ ch, x < 256) (ho : IntsV .u8 w ov os) (hol : os.length ≤ 9223372036854775807) (hy : IntsV .u16 w yv (natL ys)) (hyl : ys.length ≤ 9223372036854775807) (hy16 : ∀ x ∈ ys, x < 65536) (hacc : acc < 18446744073709551616) :
    Calls Try.prog 3 #[lv, cv, .int .i64 bits, ov, .int .u64 (acc : Int), .int .u64 (n : Int), yv, .int .i64 al] w fun e w' => e = .returned (.bool true) ∧ Up w w' := by
  obtain ⟨la, lc, rfl, hlx⟩ := hl
  obtain ⟨ca, cc, hcv, hce, hccap⟩ := hc
  rw [natL_len] at hcv hccap
  subst hcv
  obtain ⟨oa, oc, rfl, hoe, hocap⟩ := ho
  obtain ⟨ya, yc, hyv, hye, hycap⟩ := hy
  rw [natL_len] at hyv hycap
  subst hyv
  refine Calls.of_W (args := [.slice la k lc, .slice ca ch.length cc, .int .i64 bits, .slice oa os.length oc, .int .u64 (acc : Int), .int .u64 (n : Int), .slice ya ys.length yc, .int .i64 al]) Try.func3 rfl rfl rfl ?_
  repeat (first | refine WL.move rfl rfl ?_ | refine WL.assign rfl rfl ?_ | refine W.seq ?_ | refine W.region ?_ | refine WL.nil ?_ | refine Post.next ?_ | refine Post.tail ?_ | refine W.cond_t rfl ?_ | refine W.cond_f rfl ?_ | refine W.block ?_ | refine W.skip ?_ | refine W.exit ?_ | refine W.ret ?_ | refine Post.block_exit ?_ | refine Post.block_other rfl ?_ | refine Post.then_exit ?_ | refine Post.then_ret ?_ | refine Post.block_ret ?_ | refine Post.block_normal ?_ | refine WL.lenS (tyS rfl) rfl rfl ?_ | refine WL.lenStr und9 rfl rfl ?_ | refine WL.fieldAddr (tyF rfl) rfl rfl ?_ | refine WL.not rfl rfl ?_ | refine WL.pick_t rfl rfl rfl ?_ | refine WL.pick_f rfl rfl rfl ?_ | refine WL.want rfl rfl ?_ | refine WL.skip rfl rfl rfl rfl ?_ | refine WL.extract rfl rfl rfl ?_)
  refine WL.call _ (fnT rfl) (args8 rfl rfl rfl rfl rfl rfl rfl rfl) (zzBm_c w la ca oa ya k lc ch.length cc os.length oc ys.length yc _ _ _ _ hk hcl hol hyl) (by rintro e w' ⟨_, rfl, _⟩; exact ⟨_, rfl⟩) rfl ?_
  rintro v w1 ⟨r, hv, rfl⟩
  cases hv
  refine ⟨trivial, ?_⟩
  cases r
  · repeat (first | refine WL.move rfl rfl ?_ | refine WL.assign rfl rfl ?_ | refine W.seq ?_ | refine W.region ?_ | refine WL.nil ?_ | refine Post.next ?_ | refine Post.tail ?_ | refine W.cond_t rfl ?_ | refine W.cond_f rfl ?_ | refine W.block ?_ | refine W.skip ?_ | refine W.exit ?_ | refine W.ret ?_ | refine Post.block_exit ?_ | refine Post.block_other rfl ?_ | refine Post.then_exit ?_ | refine Post.then_ret ?_ | refine Post.block_ret ?_ | refine Post.block_normal ?_ | refine WL.lenS (tyS rfl) rfl rfl ?_ | refine WL.lenStr und9 rfl rfl ?_ | refine WL.fieldAddr (tyF rfl) rfl rfl ?_ | refine WL.not rfl rfl ?_ | refine WL.pick_t rfl rfl rfl ?_ | refine WL.pick_f rfl rfl rfl ?_ | refine WL.want rfl rfl ?_ | refine WL.skip rfl rfl rfl rfl ?_ | refine WL.extract rfl rfl rfl ?_)
    exact Post.ret1 rfl rfl ⟨rfl, Up.refl _⟩
  repeat (first | refine WL.move rfl rfl ?_ | refine WL.assign rfl rfl ?_ | refine W.seq ?_ | refine W.region ?_ | refine WL.nil ?_ | refine Post.next ?_ | refine Post.tail ?_ | refine W.cond_t rfl ?_ | refine W.cond_f rfl ?_ | refine W.block ?_ | refine W.skip ?_ | refine W.exit ?_ | refine W.ret ?_ | refine Post.block_exit ?_ | refine Post.block_other rfl ?_ | refine Post.then_exit ?_ | refine Post.then_ret ?_ | refine Post.block_ret ?_ | refine Post.block_normal ?_ | refine WL.lenS (tyS rfl) rfl rfl ?_ | refine WL.lenStr und9 rfl rfl ?_ | refine WL.fieldAddr (tyF rfl) rfl rfl ?_ | refine WL.not rfl rfl ?_ | refine WL.pick_t rfl rfl rfl ?_ | refine WL.pick_f rfl rfl rfl ?_ | refine WL.want rfl rfl ?_ | refine WL.skip rfl rfl rfl rfl ?_ | refine WL.extract rfl rfl rfl ?_)
  refine WL.gtr rfl rfl rfl (fun hg => ?_) (fun hk6 => ?_)
  · repeat (first | refine WL.move rfl rfl ?_ | refine WL.assign rfl rfl ?_ | refine W.seq ?_ | refine W.region ?_ | refine WL.nil ?_ | refine Post.next ?_ | refine Post.tail ?_ | refine W.cond_t rfl ?_ | refine W.cond_f rfl ?_ | refine W.block ?_ | refine W.skip ?_ | refine W.exit ?_ | refine W.ret ?_ | refine Post.block_exit ?_ | refine Post.block_other rfl ?_ | refine Post.then_exit ?_ | refine Post.then_ret ?_ | refine Post.block_ret ?_ | refine Post.block_normal ?_ | refine WL.lenS (tyS rfl) rfl rfl ?_ | refine WL.lenStr und9 rfl rfl ?_ | refine WL.fieldAddr (tyF rfl) rfl rfl ?_ | refine WL.not rfl rfl ?_ | refine WL.pick_t rfl rfl rfl ?_ | refine WL.pick_f rfl rfl rfl ?_ | refine WL.want rfl rfl ?_ | refine WL.skip rfl rfl rfl rfl ?_ | refine WL.extract rfl rfl rfl ?_)
    exact Post.ret1 rfl rfl ⟨rfl, Up.refl _⟩
  repeat (first | refine WL.move rfl rfl ?_ | refine WL.assign rfl rfl ?_ | refine W.seq ?_ | refine W.region ?_ | refine WL.nil ?_ | refine Post.next ?_ | refine Post.tail ?_ | refine W.cond_t rfl ?_ | refine W.cond_f rfl ?_ | refine W.block ?_ | refine W.skip ?_ | refine W.exit ?_ | refine W.ret ?_ | refine Post.block_exit ?_ | refine Post.block_other rfl ?_ | refine Post.then_exit ?_ | refine Post.then_ret ?_ | refine Post.block_ret ?_ | refine Post.block_normal ?_ | refine WL.lenS (tyS rfl) rfl rfl ?_ | refine WL.lenStr und9 rfl rfl ?_ | refine WL.fieldAddr (tyF rfl) rfl rfl ?_ | refine WL.not rfl rfl ?_ | refine WL.pick_t rfl rfl rfl ?_ | refine WL.pick_f rfl rfl rfl ?_ | refine WL.want rfl rfl ?_ | refine WL.skip rfl rfl rfl rfl ?_ | refine WL.extract rfl rfl rfl ?_)
  refine WL.gtr rfl rfl rfl (fun hg => ?_) (fun hc16 => ?_)
  · repeat (first | refine WL.move rfl rfl ?_ | refine WL.assign rfl rfl ?_ | refine W.seq ?_ | refine W.region ?_ | refine WL.nil ?_ | refine Post.next ?_ | refine Post.tail ?_ | refine W.cond_t rfl ?_ | refine W.cond_f rfl ?_ | refine W.block ?_ | refine W.skip ?_ | refine W.exit ?_ | refine W.ret ?_ | refine Post.block_exit ?_ | refine Post.block_other rfl ?_ | refine Post.then_exit ?_ | refine Post.then_ret ?_ | refine Post.block_ret ?_ | refine Post.block_normal ?_ | refine WL.lenS (tyS rfl) rfl rfl ?_ | refine WL.lenStr und9 rfl rfl ?_ | refine WL.fieldAddr (tyF rfl) rfl rfl ?_ | refine WL.not rfl rfl ?_ | refine WL.pick_t rfl rfl rfl ?_ | refine WL.pick_f rfl rfl rfl ?_ | refine WL.want rfl rfl ?_ | refine WL.skip rfl rfl rfl rfl ?_ | refine WL.extract rfl rfl rfl ?_)
    exact Post.ret1 rfl rfl ⟨rfl, Up.refl _⟩
  repeat (first | refine WL.move rfl rfl ?_ | refine WL.assign rfl rfl ?_ | refine W.seq ?_ | refine W.region ?_ | refine WL.nil ?_ | refine Post.next ?_ | refine Post.tail ?_ | refine W.cond_t rfl ?_ | refine W.cond_f rfl ?_ | refine W.block ?_ | refine W.skip ?_ | refine W.exit ?_ | refine W.ret ?_ | refine Post.block_exit ?_ | refine Post.block_other rfl ?_ | refine Post.then_exit ?_ | refine Post.then_ret ?_ | refine Post.block_ret ?_ | refine Post.block_normal ?_ | refine WL.lenS (tyS rfl) rfl rfl ?_ | refine WL.lenStr und9 rfl rfl ?_ | refine WL.fieldAddr (tyF rfl) rfl rfl ?_ | refine WL.not rfl rfl ?_ | refine WL.pick_t rfl rfl rfl ?_ | refine WL.pick_f rfl rfl rfl ?_ | refine WL.want rfl rfl ?_ | refine WL.skip rfl rfl rfl rfl ?_ | refine WL.extract rfl rfl rfl ?_)
  refine WL.gtr rfl rfl rfl (fun hg => ?_) (fun ho16 => ?_)
  · repeat (first | refine WL.move rfl rfl ?_ | refine WL.assign rfl rfl ?_ | refine W.seq ?_ | refine W.region ?_ | refine WL.nil ?_ | refine Post.next ?_ | refine Post.tail ?_ | refine W.cond_t rfl ?_ | refine W.cond_f rfl ?_ | refine W.block ?_ | refine W.skip ?_ | refine W.exit ?_ | refine W.ret ?_ | refine Post.block_exit ?_ | refine Post.block_other rfl ?_ | refine Post.then_exit ?_ | refine Post.then_ret ?_ | refine Post.block_ret ?_ | refine Post.block_normal ?_ | refine WL.lenS (tyS rfl) rfl rfl ?_ | refine WL.lenStr und9 rfl rfl ?_ | refine WL.fieldAddr (tyF rfl) rfl rfl ?_ | refine WL.not rfl rfl ?_ | refine WL.pick_t rfl rfl rfl ?_ | refine WL.pick_f rfl rfl rfl ?_ | refine WL.want rfl rfl ?_ | refine WL.skip rfl rfl rfl rfl ?_ | refine WL.extract rfl rfl rfl ?_)
    exact Post.ret1 rfl rfl ⟨rfl, Up.refl _⟩
  repeat (first | refine WL.move rfl rfl ?_ | refine WL.assign rfl rfl ?_ | refine W.seq ?_ | refine W.region ?_ | refine WL.nil ?_ | refine Post.next ?_ | refine Post.tail ?_ | refine W.cond_t rfl ?_ | refine W.cond_f rfl ?_ | refine W.block ?_ | refine W.skip ?_ | refine W.exit ?_ | refine W.ret ?_ | refine Post.block_exit ?_ | refine Post.block_other rfl ?_ | refine Post.then_exit ?_ | refine Post.then_ret ?_ | refine Post.block_ret ?_ | refine Post.block_normal ?_ | refine WL.lenS (tyS rfl) rfl rfl ?_ | refine WL.lenStr und9 rfl rfl ?_ | refine WL.fieldAddr (tyF rfl) rfl rfl ?_ | refine WL.not rfl rfl ?_ | refine WL.pick_t rfl rfl rfl ?_ | refine WL.pick_f rfl rfl rfl ?_ | refine WL.want rfl rfl ?_ | refine WL.skip rfl rfl rfl rfl ?_ | refine WL.extract rfl rfl rfl ?_)
  refine WL.gtr rfl rfl rfl (fun hg => ?_) (fun hyl16 => ?_)
  · repeat (first | refine WL.move rfl rfl ?_ | refine WL.assign rfl rfl ?_ | refine W.seq ?_ | refine W.region ?_ | refine WL.nil ?_ | refine Post.next ?_ | refine Post.tail ?_ | refine W.cond_t rfl ?_ | refine W.cond_f rfl ?_ | refine W.block ?_ | refine W.skip ?_ | refine W.exit ?_ | refine W.ret ?_ | refine Post.block_exit ?_ | refine Post.block_other rfl ?_ | refine Post.then_exit ?_ | refine Post.then_ret ?_ | refine Post.block_ret ?_ | refine Post.block_normal ?_ | refine WL.lenS (tyS rfl) rfl rfl ?_ | refine WL.lenStr und9 rfl rfl ?_ | refine WL.fieldAddr (tyF rfl) rfl rfl ?_ | refine WL.not rfl rfl ?_ | refine WL.pick_t rfl rfl rfl ?_ | refine WL.pick_f rfl rfl rfl ?_ | refine WL.want rfl rfl ?_ | refine WL.skip rfl rfl rfl rfl ?_ | refine WL.extract rfl rfl rfl ?_)
    exact Post.ret1 rfl rfl ⟨rfl, Up.refl _⟩
  repeat (first | refine WL.move rfl rfl ?_ | refine WL.assign rfl rfl ?_ | refine W.seq ?_ | refine W.region ?_ | refine WL.nil ?_ | refine Post.next ?_ | refine Post.tail ?_ | refine W.cond_t rfl ?_ | refine W.cond_f rfl ?_ | refine W.block ?_ | refine W.skip ?_ | refine W.exit ?_ | refine W.ret ?_ | refine Post.block_exit ?_ | refine Post.block_other rfl ?_ | refine Post.then_exit ?_ | refine Post.then_ret ?_ | refine Post.block_ret ?_ | refine Post.block_normal ?_ | refine WL.lenS (tyS rfl) rfl rfl ?_ | refine WL.lenStr und9 rfl rfl ?_ | refine WL.fieldAddr (tyF rfl) rfl rfl ?_ | refine WL.not rfl rfl ?_ | refine WL.pick_t rfl rfl rfl ?_ | refine WL.pick_f rfl rfl rfl ?_ | refine WL.want rfl rfl ?_ | refine WL.skip rfl rfl rfl rfl ?_ | refine WL.extract rfl rfl rfl ?_)
  refine WL.gtr rfl rfl rfl (fun hg => ?_) (fun hn7 => ?_)
  · repeat (first | refine WL.move rfl rfl ?_ | refine WL.assign rfl rfl ?_ | refine W.seq ?_ | refine W.region ?_ | refine WL.nil ?_ | refine Post.next ?_ | refine Post.tail ?_ | refine W.cond_t rfl ?_ | refine W.cond_f rfl ?_ | refine W.block ?_ | refine W.skip ?_ | refine W.exit ?_ | refine W.ret ?_ | refine Post.block_exit ?_ | refine Post.block_other rfl ?_ | refine Post.then_exit ?_ | refine Post.then_ret ?_ | refine Post.block_ret ?_ | refine Post.block_normal ?_ | refine WL.lenS (tyS rfl) rfl rfl ?_ | refine WL.lenStr und9 rfl rfl ?_ | refine WL.fieldAddr (tyF rfl) rfl rfl ?_ | refine WL.not rfl rfl ?_ | refine WL.pick_t rfl rfl rfl ?_ | refine WL.pick_f rfl rfl rfl ?_ | refine WL.want rfl rfl ?_ | refine WL.skip rfl rfl rfl rfl ?_ | refine WL.extract rfl rfl rfl ?_)
    exact Post.ret1 rfl rfl ⟨rfl, Up.refl _⟩
  repeat (first | refine WL.move rfl rfl ?_ | refine WL.assign rfl rfl ?_ | refine W.seq ?_ | refine W.region ?_ | refine WL.nil ?_ | refine Post.next ?_ | refine Post.tail ?_ | refine W.cond_t rfl ?_ | refine W.cond_f rfl ?_ | refine W.block ?_ | refine W.skip ?_ | refine W.exit ?_ | refine W.ret ?_ | refine Post.block_exit ?_ | refine Post.block_other rfl ?_ | refine Post.then_exit ?_ | refine Post.then_ret ?_ | refine Post.block_ret ?_ | refine Post.block_normal ?_ | refine WL.lenS (tyS rfl) rfl rfl ?_ | refine WL.lenStr und9 rfl rfl ?_ | refine WL.fieldAddr (tyF rfl) rfl rfl ?_ | refine WL.not rfl rfl ?_ | refine WL.pick_t rfl rfl rfl ?_ | refine WL.pick_f rfl rfl rfl ?_ | refine WL.want rfl rfl ?_ | refine WL.skip rfl rfl rfl rfl ?_ | refine WL.extract rfl rfl rfl ?_)
  refine WL.call _ (fnT rfl) (args4 rfl rfl rfl rfl) (inDom_c w1 la k lc _ _ ch ys al (by omega) ⟨ca, cc, by rw [natL_len], hce, by rw [natL_len]; exact hccap⟩ ⟨ya, yc, by rw [natL_len], hye, by rw [natL_len]; exact hycap⟩ (by omega) (by omega) hc8 hy16) (by rintro e w' ⟨_, rfl, _⟩; exact ⟨_, rfl⟩) rfl ?_
  rintro v w1 ⟨r, hv, hr, rfl⟩
  cases hv
  refine ⟨trivial, ?_⟩
  cases r
  · repeat (first | refine WL.move rfl rfl ?_ | refine WL.assign rfl rfl ?_ | refine W.seq ?_ | refine W.region ?_ | refine WL.nil ?_ | refine Post.next ?_ | refine Post.tail ?_ | refine W.cond_t rfl ?_ | refine W.cond_f rfl ?_ | refine W.block ?_ | refine W.skip ?_ | refine W.exit ?_ | refine W.ret ?_ | refine Post.block_exit ?_ | refine Post.block_other rfl ?_ | refine Post.then_exit ?_ | refine Post.then_ret ?_ | refine Post.block_ret ?_ | refine Post.block_normal ?_ | refine WL.lenS (tyS rfl) rfl rfl ?_ | refine WL.lenStr und9 rfl rfl ?_ | refine WL.fieldAddr (tyF rfl) rfl rfl ?_ | refine WL.not rfl rfl ?_ | refine WL.pick_t rfl rfl rfl ?_ | refine WL.pick_f rfl rfl rfl ?_ | refine WL.want rfl rfl ?_ | refine WL.skip rfl rfl rfl rfl ?_ | refine WL.extract rfl rfl rfl ?_)
    exact Post.ret1 rfl rfl ⟨rfl, Up.refl _⟩
  obtain ⟨hA, hcy, hck, hyk⟩ := hr rfl
  clear hr
  obtain ⟨alpha, hal⟩ : ∃ a : Nat, 0 < k → al = (a : Int) := ⟨al.toNat, fun h => by have := hA h; omega⟩
  have halp : 0 < k → 1 ≤ alpha ∧ alpha ≤ 512 := fun h => by
    have h1 := hA h
    have h2 := hal h
    omega
  have hck0 : 0 < ys.length → 0 < k := fun h => by
    have := hck 0 (by omega)
    omega
  have hyk' : ∀ i, (h : i < ys.length) → ys[i] < alpha := fun i h => by
    have h1 := hyk i h
    have h2 := hal (hck0 (by omega))
    omega
  repeat (first | refine WL.move rfl rfl ?_ | refine WL.assign rfl rfl ?_ | refine W.seq ?_ | refine W.region ?_ | refine WL.nil ?_ | refine Post.next ?_ | refine Post.tail ?_ | refine W.cond_t rfl ?_ | refine W.cond_f rfl ?_ | refine W.block ?_ | refine W.skip ?_ | refine W.exit ?_ | refine W.ret ?_ | refine Post.block_exit ?_ | refine Post.block_other rfl ?_ | refine Post.then_exit ?_ | refine Post.then_ret ?_ | refine Post.block_ret ?_ | refine Post.block_normal ?_ | refine WL.lenS (tyS rfl) rfl rfl ?_ | refine WL.lenStr und9 rfl rfl ?_ | refine WL.fieldAddr (tyF rfl) rfl rfl ?_ | refine WL.not rfl rfl ?_ | refine WL.pick_t rfl rfl rfl ?_ | refine WL.pick_f rfl rfl rfl ?_ | refine WL.want rfl rfl ?_ | refine WL.skip rfl rfl rfl rfl ?_ | refine WL.extract rfl rfl rfl ?_)
  refine W.loop (fun (t : Nat) => [(0, .slice la k lc), (1, .slice ca ch.length cc), (2, .int .i64 bits), (3, .slice oa os.length oc), (4, .int .u64 (acc : Int)), (5, .int .u64 (n : Int)), (6, .slice ya ys.length yc), (7, .int .i64 al), (17, .int .i64 k), (18, .int .i64 t)])
    (fun t wx => wx = w1 ∧ t ≤ k ∧ ∀ t', t' < t → (∀ u, u < alpha → 1 ≤ f t' u ∧ f t' u ≤ 17) ∧ krf (f t') alpha ≤ 131072) (fun t => k - t) 0 ⟨rfl, rfl, rfl, rfl, rfl, rfl, rfl, rfl, rfl, rfl, trivial⟩ ⟨rfl, by omega, fun t' h => by omega⟩ ?_
  rintro t w1 ⟨rfl, ht, hK⟩
  repeat (first | refine WL.move rfl rfl ?_ | refine WL.assign rfl rfl ?_ | refine W.seq ?_ | refine W.region ?_ | refine WL.nil ?_ | refine Post.next ?_ | refine Post.tail ?_ | refine W.cond_t rfl ?_ | refine W.cond_f rfl ?_ | refine W.block ?_ | refine W.skip ?_ | refine W.exit ?_ | refine W.ret ?_ | refine Post.block_exit ?_ | refine Post.block_other rfl ?_ | refine Post.then_exit ?_ | refine Post.then_ret ?_ | refine Post.block_ret ?_ | refine Post.block_normal ?_ | refine WL.lenS (tyS rfl) rfl rfl ?_ | refine WL.lenStr und9 rfl rfl ?_ | refine WL.fieldAddr (tyF rfl) rfl rfl ?_ | refine WL.not rfl rfl ?_ | refine WL.pick_t rfl rfl rfl ?_ | refine WL.pick_f rfl rfl rfl ?_ | refine WL.want rfl rfl ?_ | refine WL.skip rfl rfl rfl rfl ?_ | refine WL.extract rfl rfl rfl ?_)
  refine WL.lss rfl rfl rfl (fun hlt => ?_) (fun hge => ?_)
  · have htk : t < k := by omega
    obtain ⟨ha1, ha2⟩ := halp (by omega)
    have hal' := hal (by omega)
    subst hal'
    obtain ⟨bk, o, e, hcell⟩ := hlx (by omega)
    cases e
    repeat (first | refine WL.move rfl rfl ?_ | refine WL.assign rfl rfl ?_ | refine W.seq ?_ | refine W.region ?_ | refine WL.nil ?_ | refine Post.next ?_ | refine Post.tail ?_ | refine W.cond_t rfl ?_ | refine W.cond_f rfl ?_ | refine W.block ?_ | refine W.skip ?_ | refine W.exit ?_ | refine W.ret ?_ | refine Post.block_exit ?_ | refine Post.block_other rfl ?_ | refine Post.then_exit ?_ | refine Post.then_ret ?_ | refine Post.block_ret ?_ | refine Post.block_normal ?_ | refine WL.lenS (tyS rfl) rfl rfl ?_ | refine WL.lenStr und9 rfl rfl ?_ | refine WL.fieldAddr (tyF rfl) rfl rfl ?_ | refine WL.not rfl rfl ?_ | refine WL.pick_t rfl rfl rfl ?_ | refine WL.pick_f rfl rfl rfl ?_ | refine WL.want rfl rfl ?_ | refine WL.skip rfl rfl rfl rfl ?_ | refine WL.extract rfl rfl rfl ?_)
    refine W.loop2 (fun (u z : Nat) => [(0, .slice (some ⟨bk, o, none⟩) k lc), (1, .slice ca ch.length cc), (2, .int .i64 bits), (3, .slice oa os.length oc), (4, .int .u64 (acc : Int)), (5, .int .u64 (n : Int)), (6, .slice ya ys.length yc), (7, .int .i64 (alpha : Int)), (17, .int .i64 k), (18, .int .i64 t), (19, .int .i64 z), (20, .int .i64 u)])
      (fun u z wx => wx = w1 ∧ u ≤ alpha ∧ z = krf (f t) u ∧ z ≤ 65536 * u ∧ ∀ u', u' < u → 1 ≤ f t u' ∧ f t u' ≤ 17) (fun u _ => alpha - u) 0 0 ⟨rfl, rfl, rfl, rfl, rfl, rfl, rfl, rfl, rfl, rfl, rfl, rfl, trivial⟩ ⟨rfl, by omega, rfl, by omega, fun u' h => by omega⟩ ?_
    rintro u z w1 ⟨rfl, hu, hz, hzb, hU⟩
    repeat (first | refine WL.move rfl rfl ?_ | refine WL.assign rfl rfl ?_ | refine W.seq ?_ | refine W.region ?_ | refine WL.nil ?_ | refine Post.next ?_ | refine Post.tail ?_ | refine W.cond_t rfl ?_ | refine W.cond_f rfl ?_ | refine W.block ?_ | refine W.skip ?_ | refine W.exit ?_ | refine W.ret ?_ | refine Post.block_exit ?_ | refine Post.block_other rfl ?_ | refine Post.then_exit ?_ | refine Post.then_ret ?_ | refine Post.block_ret ?_ | refine Post.block_normal ?_ | refine WL.lenS (tyS rfl) rfl rfl ?_ | refine WL.lenStr und9 rfl rfl ?_ | refine WL.fieldAddr (tyF rfl) rfl rfl ?_ | refine WL.not rfl rfl ?_ | refine WL.pick_t rfl rfl rfl ?_ | refine WL.pick_f rfl rfl rfl ?_ | refine WL.want rfl rfl ?_ | refine WL.skip rfl rfl rfl rfl ?_ | refine WL.extract rfl rfl rfl ?_)
    refine WL.lss rfl rfl rfl (fun hlt2 => ?_) (fun hge2 => ?_)
    · have hc := hcell t u htk (by omega)
      have hf := hf8 t u
      have hkz : krf (f t) (u + 1) = krf (f t) u + 2 ^ (17 - f t u) := rfl
      generalize hld : f t u = l at *
      repeat (first | refine WL.move rfl rfl ?_ | refine WL.assign rfl rfl ?_ | refine W.seq ?_ | refine W.region ?_ | refine WL.nil ?_ | refine Post.next ?_ | refine Post.tail ?_ | refine W.cond_t rfl ?_ | refine W.cond_f rfl ?_ | refine W.block ?_ | refine W.skip ?_ | refine W.exit ?_ | refine W.ret ?_ | refine Post.block_exit ?_ | refine Post.block_other rfl ?_ | refine Post.then_exit ?_ | refine Post.then_ret ?_ | refine Post.block_ret ?_ | refine Post.block_normal ?_ | refine WL.lenS (tyS rfl) rfl rfl ?_ | refine WL.lenStr und9 rfl rfl ?_ | refine WL.fieldAddr (tyF rfl) rfl rfl ?_ | refine WL.not rfl rfl ?_ | refine WL.pick_t rfl rfl rfl ?_ | refine WL.pick_f rfl rfl rfl ?_ | refine WL.want rfl rfl ?_ | refine WL.skip rfl rfl rfl rfl ?_ | refine WL.extract rfl rfl rfl ?_ | refine WL.addI rfl rfl (by omega) rfl ?_ | refine WL.subI rfl rfl (by omega) rfl ?_ | refine WL.indexS (tyS rfl) rfl rfl (by omega) rfl ?_ | refine WL.indexA (tyR rfl) rfl rfl (by omega) rfl ?_)
      refine WL.load (o' := o + (t * 512 + u)) (tyP rfl) rfl (fun _ e => e) hc (by first | omega | (simp; done) | (simp; omega)) rfl ?_
      refine WL.conv' (kd' := .i64) (tyI rfl) (tyI rfl) rfl (i64w (by omega) (by omega)) rfl ?_
      repeat (first | refine WL.move rfl rfl ?_ | refine WL.assign rfl rfl ?_ | refine W.seq ?_ | refine W.region ?_ | refine WL.nil ?_ | refine Post.next ?_ | refine Post.tail ?_ | refine W.cond_t rfl ?_ | refine W.cond_f rfl ?_ | refine W.block ?_ | refine W.skip ?_ | refine W.exit ?_ | refine W.ret ?_ | refine Post.block_exit ?_ | refine Post.block_other rfl ?_ | refine Post.then_exit ?_ | refine Post.then_ret ?_ | refine Post.block_ret ?_ | refine Post.block_normal ?_ | refine WL.lenS (tyS rfl) rfl rfl ?_ | refine WL.lenStr und9 rfl rfl ?_ | refine WL.fieldAddr (tyF rfl) rfl rfl ?_ | refine WL.not rfl rfl ?_ | refine WL.pick_t rfl rfl rfl ?_ | refine WL.pick_f rfl rfl rfl ?_ | refine WL.want rfl rfl ?_ | refine WL.skip rfl rfl rfl rfl ?_ | refine WL.extract rfl rfl rfl ?_)
      refine WL.lss rfl rfl rfl (fun hl1 => ?_) (fun hl1 => ?_)
      · repeat (first | refine WL.move rfl rfl ?_ | refine WL.assign rfl rfl ?_ | refine W.seq ?_ | refine W.region ?_ | refine WL.nil ?_ | refine Post.next ?_ | refine Post.tail ?_ | refine W.cond_t rfl ?_ | refine W.cond_f rfl ?_ | refine W.block ?_ | refine W.skip ?_ | refine W.exit ?_ | refine W.ret ?_ | refine Post.block_exit ?_ | refine Post.block_other rfl ?_ | refine Post.then_exit ?_ | refine Post.then_ret ?_ | refine Post.block_ret ?_ | refine Post.block_normal ?_ | refine WL.lenS (tyS rfl) rfl rfl ?_ | refine WL.lenStr und9 rfl rfl ?_ | refine WL.fieldAddr (tyF rfl) rfl rfl ?_ | refine WL.not rfl rfl ?_ | refine WL.pick_t rfl rfl rfl ?_ | refine WL.pick_f rfl rfl rfl ?_ | refine WL.want rfl rfl ?_ | refine WL.skip rfl rfl rfl rfl ?_ | refine WL.extract rfl rfl rfl ?_)
        exact Post.ret1 rfl rfl ⟨rfl, Up.refl _⟩
      repeat (first | refine WL.move rfl rfl ?_ | refine WL.assign rfl rfl ?_ | refine W.seq ?_ | refine W.region ?_ | refine WL.nil ?_ | refine Post.next ?_ | refine Post.tail ?_ | refine W.cond_t rfl ?_ | refine W.cond_f rfl ?_ | refine W.block ?_ | refine W.skip ?_ | refine W.exit ?_ | refine W.ret ?_ | refine Post.block_exit ?_ | refine Post.block_other rfl ?_ | refine Post.then_exit ?_ | refine Post.then_ret ?_ | refine Post.block_ret ?_ | refine Post.block_normal ?_ | refine WL.lenS (tyS rfl) rfl rfl ?_ | refine WL.lenStr und9 rfl rfl ?_ | refine WL.fieldAddr (tyF rfl) rfl rfl ?_ | refine WL.not rfl rfl ?_ | refine WL.pick_t rfl rfl rfl ?_ | refine WL.pick_f rfl rfl rfl ?_ | refine WL.want rfl rfl ?_ | refine WL.skip rfl rfl rfl rfl ?_ | refine WL.extract rfl rfl rfl ?_)
      refine WL.gtr rfl rfl rfl (fun hl17 => ?_) (fun hl17 => ?_)
      · repeat (first | refine WL.move rfl rfl ?_ | refine WL.assign rfl rfl ?_ | refine W.seq ?_ | refine W.region ?_ | refine WL.nil ?_ | refine Post.next ?_ | refine Post.tail ?_ | refine W.cond_t rfl ?_ | refine W.cond_f rfl ?_ | refine W.block ?_ | refine W.skip ?_ | refine W.exit ?_ | refine W.ret ?_ | refine Post.block_exit ?_ | refine Post.block_other rfl ?_ | refine Post.then_exit ?_ | refine Post.then_ret ?_ | refine Post.block_ret ?_ | refine Post.block_normal ?_ | refine WL.lenS (tyS rfl) rfl rfl ?_ | refine WL.lenStr und9 rfl rfl ?_ | refine WL.fieldAddr (tyF rfl) rfl rfl ?_ | refine WL.not rfl rfl ?_ | refine WL.pick_t rfl rfl rfl ?_ | refine WL.pick_f rfl rfl rfl ?_ | refine WL.want rfl rfl ?_ | refine WL.skip rfl rfl rfl rfl ?_ | refine WL.extract rfl rfl rfl ?_)
        exact Post.ret1 rfl rfl ⟨rfl, Up.refl _⟩
      have hcl' : ((17 : Int) - (l : Int)) = ((17 - l : Nat) : Int) := by omega
      have hp16 : 2 ^ (17 - l) ≤ 65536 := by
        have := Nat.pow_le_pow_right (n := 2) (by omega) (show 17 - l ≤ 16 by omega)
        simpa using this
      repeat (first | refine WL.move rfl rfl ?_ | refine WL.assign rfl rfl ?_ | refine W.seq ?_ | refine W.region ?_ | refine WL.nil ?_ | refine Post.next ?_ | refine Post.tail ?_ | refine W.cond_t rfl ?_ | refine W.cond_f rfl ?_ | refine W.block ?_ | refine W.skip ?_ | refine W.exit ?_ | refine W.ret ?_ | refine Post.block_exit ?_ | refine Post.block_other rfl ?_ | refine Post.then_exit ?_ | refine Post.then_ret ?_ | refine Post.block_ret ?_ | refine Post.block_normal ?_ | refine WL.lenS (tyS rfl) rfl rfl ?_ | refine WL.lenStr und9 rfl rfl ?_ | refine WL.fieldAddr (tyF rfl) rfl rfl ?_ | refine WL.not rfl rfl ?_ | refine WL.pick_t rfl rfl rfl ?_ | refine WL.pick_f rfl rfl rfl ?_ | refine WL.want rfl rfl ?_ | refine WL.skip rfl rfl rfl rfl ?_ | refine WL.extract rfl rfl rfl ?_ | refine WL.addI rfl rfl (by omega) rfl ?_ | refine WL.subI rfl rfl (by omega) rfl ?_ | refine WL.indexS (tyS rfl) rfl rfl (by omega) rfl ?_ | refine WL.indexA (tyR rfl) rfl rfl (by omega) rfl ?_)
      rw [hcl']
      refine WL.conv' (kd' := .u64) (tyI rfl) (tyI rfl) rfl (u64w (by omega) (by omega)) rfl ?_
      refine WL.shl rfl rfl (by omega) rfl ?_
      rw [i64_pow (by omega)]
      generalize hpw : 2 ^ (17 - l) = pw at *
      repeat (first | refine WL.move rfl rfl ?_ | refine WL.assign rfl rfl ?_ | refine W.seq ?_ | refine W.region ?_ | refine WL.nil ?_ | refine Post.next ?_ | refine Post.tail ?_ | refine W.cond_t rfl ?_ | refine W.cond_f rfl ?_ | refine W.block ?_ | refine W.skip ?_ | refine W.exit ?_ | refine W.ret ?_ | refine Post.block_exit ?_ | refine Post.block_other rfl ?_ | refine Post.then_exit ?_ | refine Post.then_ret ?_ | refine Post.block_ret ?_ | refine Post.block_normal ?_ | refine WL.lenS (tyS rfl) rfl rfl ?_ | refine WL.lenStr und9 rfl rfl ?_ | refine WL.fieldAddr (tyF rfl) rfl rfl ?_ | refine WL.not rfl rfl ?_ | refine WL.pick_t rfl rfl rfl ?_ | refine WL.pick_f rfl rfl rfl ?_ | refine WL.want rfl rfl ?_ | refine WL.skip rfl rfl rfl rfl ?_ | refine WL.extract rfl rfl rfl ?_ | refine WL.addI rfl rfl (by omega) rfl ?_ | refine WL.subI rfl rfl (by omega) rfl ?_ | refine WL.indexS (tyS rfl) rfl rfl (by omega) rfl ?_ | refine WL.indexA (tyR rfl) rfl rfl (by omega) rfl ?_)
      refine Post.round2 (u + 1) (z + pw) ⟨rfl, rfl, rfl, rfl, rfl, rfl, rfl, rfl, rfl, rfl, (by first | rfl | (simp [look]; done) | (simp [look]; omega)), (by first | rfl | (simp [look]; done) | (simp [look]; omega)), trivial⟩ ⟨rfl, by omega, by omega, by omega, ?_⟩ (by omega)
      intro u' h
      by_cases e : u' = u
      · subst e; omega
      · exact hU u' (by omega)
    · have hua : u = alpha := by omega
      subst hua
      repeat (first | refine WL.move rfl rfl ?_ | refine WL.assign rfl rfl ?_ | refine W.seq ?_ | refine W.region ?_ | refine WL.nil ?_ | refine Post.next ?_ | refine Post.tail ?_ | refine W.cond_t rfl ?_ | refine W.cond_f rfl ?_ | refine W.block ?_ | refine W.skip ?_ | refine W.exit ?_ | refine W.ret ?_ | refine Post.block_exit ?_ | refine Post.block_other rfl ?_ | refine Post.then_exit ?_ | refine Post.then_ret ?_ | refine Post.block_ret ?_ | refine Post.block_normal ?_ | refine WL.lenS (tyS rfl) rfl rfl ?_ | refine WL.lenStr und9 rfl rfl ?_ | refine WL.fieldAddr (tyF rfl) rfl rfl ?_ | refine WL.not rfl rfl ?_ | refine WL.pick_t rfl rfl rfl ?_ | refine WL.pick_f rfl rfl rfl ?_ | refine WL.want rfl rfl ?_ | refine WL.skip rfl rfl rfl rfl ?_ | refine WL.extract rfl rfl rfl ?_)
      refine WL.gtr rfl rfl rfl (fun hg => ?_) (fun hle => ?_)
      · repeat (first | refine WL.move rfl rfl ?_ | refine WL.assign rfl rfl ?_ | refine W.seq ?_ | refine W.region ?_ | refine WL.nil ?_ | refine Post.next ?_ | refine Post.tail ?_ | refine W.cond_t rfl ?_ | refine W.cond_f rfl ?_ | refine W.block ?_ | refine W.skip ?_ | refine W.exit ?_ | refine W.ret ?_ | refine Post.block_exit ?_ | refine Post.block_other rfl ?_ | refine Post.then_exit ?_ | refine Post.then_ret ?_ | refine Post.block_ret ?_ | refine Post.block_normal ?_ | refine WL.lenS (tyS rfl) rfl rfl ?_ | refine WL.lenStr und9 rfl rfl ?_ | refine WL.fieldAddr (tyF rfl) rfl rfl ?_ | refine WL.not rfl rfl ?_ | refine WL.pick_t rfl rfl rfl ?_ | refine WL.pick_f rfl rfl rfl ?_ | refine WL.want rfl rfl ?_ | refine WL.skip rfl rfl rfl rfl ?_ | refine WL.extract rfl rfl rfl ?_)
        exact Post.ret1 rfl rfl ⟨rfl, Up.refl _⟩
      repeat (first | refine WL.move rfl rfl ?_ | refine WL.assign rfl rfl ?_ | refine W.seq ?_ | refine W.region ?_ | refine WL.nil ?_ | refine Post.next ?_ | refine Post.tail ?_ | refine W.cond_t rfl ?_ | refine W.cond_f rfl ?_ | refine W.block ?_ | refine W.skip ?_ | refine W.exit ?_ | refine W.ret ?_ | refine Post.block_exit ?_ | refine Post.block_other rfl ?_ | refine Post.then_exit ?_ | refine Post.then_ret ?_ | refine Post.block_ret ?_ | refine Post.block_normal ?_ | refine WL.lenS (tyS rfl) rfl rfl ?_ | refine WL.lenStr und9 rfl rfl ?_ | refine WL.fieldAddr (tyF rfl) rfl rfl ?_ | refine WL.not rfl rfl ?_ | refine WL.pick_t rfl rfl rfl ?_ | refine WL.pick_f rfl rfl rfl ?_ | refine WL.want rfl rfl ?_ | refine WL.skip rfl rfl rfl rfl ?_ | refine WL.extract rfl rfl rfl ?_ | refine WL.addI rfl rfl (by omega) rfl ?_ | refine WL.subI rfl rfl (by omega) rfl ?_ | refine WL.indexS (tyS rfl) rfl rfl (by omega) rfl ?_ | refine WL.indexA (tyR rfl) rfl rfl (by omega) rfl ?_)
      refine Post.round (t + 1) ⟨rfl, rfl, rfl, rfl, rfl, rfl, rfl, rfl, rfl, (by first | rfl | (simp [look]; done) | (simp [look]; omega)), trivial⟩ ⟨rfl, by omega, ?_⟩ (by omega)
      intro t' h
      by_cases e : t' = t
      · subst e; exact ⟨hU, by omega⟩
      · exact hK t' (by omega)
  have hK' : ∀ t', t' < k → (∀ u, u < alpha → 1 ≤ f t' u ∧ f t' u ≤ 17) ∧ krf (f t') alpha ≤ 131072 := fun t' h => hK t' (by omega)
  clear hK hge ht
  repeat (first | refine WL.move rfl rfl ?_ | refine WL.assign rfl rfl ?_ | refine W.seq ?_ | refine W.region ?_ | refine WL.nil ?_ | refine Post.next ?_ | refine Post.tail ?_ | refine W.cond_t rfl ?_ | refine W.cond_f rfl ?_ | refine W.block ?_ | refine W.skip ?_ | refine W.exit ?_ | refine W.ret ?_ | refine Post.block_exit ?_ | refine Post.block_other rfl ?_ | refine Post.then_exit ?_ | refine Post.then_ret ?_ | refine Post.block_ret ?_ | refine Post.block_normal ?_ | refine WL.lenS (tyS rfl) rfl rfl ?_ | refine WL.lenStr und9 rfl rfl ?_ | refine WL.fieldAddr (tyF rfl) rfl rfl ?_ | refine WL.not rfl rfl ?_ | refine WL.pick_t rfl rfl rfl ?_ | refine WL.pick_f rfl rfl rfl ?_ | refine WL.want rfl rfl ?_ | refine WL.skip rfl rfl rfl rfl ?_ | refine WL.extract rfl rfl rfl ?_)
  refine WL.call _ (fnT rfl) (args1 rfl) (cloneL_c w1 _ k f ⟨la, lc, rfl, hlx⟩ (by omega)) (by rintro e w' ⟨_, _, rfl, _⟩; exact ⟨_, rfl⟩) rfl ?_
  rintro v w2 ⟨la2, lc2, hv, hu2, hg2⟩
  cases hv
  refine ⟨trivial, ?_⟩
  repeat (first | refine WL.move rfl rfl ?_ | refine WL.assign rfl rfl ?_ | refine W.seq ?_ | refine W.region ?_ | refine WL.nil ?_ | refine Post.next ?_ | refine Post.tail ?_ | refine W.cond_t rfl ?_ | refine W.cond_f rfl ?_ | refine W.block ?_ | refine W.skip ?_ | refine W.exit ?_ | refine W.ret ?_ | refine Post.block_exit ?_ | refine Post.block_other rfl ?_ | refine Post.then_exit ?_ | refine Post.then_ret ?_ | refine Post.block_ret ?_ | refine Post.block_normal ?_ | refine WL.lenS (tyS rfl) rfl rfl ?_ | refine WL.lenStr und9 rfl rfl ?_ | refine WL.fieldAddr (tyF rfl) rfl rfl ?_ | refine WL.not rfl rfl ?_ | refine WL.pick_t rfl rfl rfl ?_ | refine WL.pick_f rfl rfl rfl ?_ | refine WL.want rfl rfl ?_ | refine WL.skip rfl rfl rfl rfl ?_ | refine WL.extract rfl rfl rfl ?_)
  refine WL.call _ (fnT rfl) (args1 rfl) (cloneB_c w2 _ (natL ch) ⟨ca, cc, by rw [natL_len], hce.up hu2, by rw [natL_len]; exact hccap⟩ (by rw [natL_len]; omega)) (by rintro e w' ⟨_, rfl, _⟩; exact ⟨_, rfl⟩) rfl ?_
  rintro v w3 ⟨cv, hv, hoc, hu3⟩
  have hv := (Ending.returned.inj hv).symm
  subst hv
  refine ⟨trivial, ?_⟩
  repeat (first | refine WL.move rfl rfl ?_ | refine WL.assign rfl rfl ?_ | refine W.seq ?_ | refine W.region ?_ | refine WL.nil ?_ | refine Post.next ?_ | refine Post.tail ?_ | refine W.cond_t rfl ?_ | refine W.cond_f rfl ?_ | refine W.block ?_ | refine W.skip ?_ | refine W.exit ?_ | refine W.ret ?_ | refine Post.block_exit ?_ | refine Post.block_other rfl ?_ | refine Post.then_exit ?_ | refine Post.then_ret ?_ | refine Post.block_ret ?_ | refine Post.block_normal ?_ | refine WL.lenS (tyS rfl) rfl rfl ?_ | refine WL.lenStr und9 rfl rfl ?_ | refine WL.fieldAddr (tyF rfl) rfl rfl ?_ | refine WL.not rfl rfl ?_ | refine WL.pick_t rfl rfl rfl ?_ | refine WL.pick_f rfl rfl rfl ?_ | refine WL.want rfl rfl ?_ | refine WL.skip rfl rfl rfl rfl ?_ | refine WL.extract rfl rfl rfl ?_)
  refine WL.call _ (fnT rfl) (args1 rfl) (cloneB_c w3 _ os ⟨oa, oc, rfl, hoe.up (hu2.trans hu3), hocap⟩ (by omega)) (by rintro e w' ⟨_, rfl, _⟩; exact ⟨_, rfl⟩) rfl ?_
  rintro v w4 ⟨ov, hv, hoo, hu4⟩
  have hv := (Ending.returned.inj hv).symm
  subst hv
  refine ⟨trivial, ?_⟩
  repeat (first | refine WL.move rfl rfl ?_ | refine WL.assign rfl rfl ?_ | refine W.seq ?_ | refine W.region ?_ | refine WL.nil ?_ | refine Post.next ?_ | refine Post.tail ?_ | refine W.cond_t rfl ?_ | refine W.cond_f rfl ?_ | refine W.block ?_ | refine W.skip ?_ | refine W.exit ?_ | refine W.ret ?_ | refine Post.block_exit ?_ | refine Post.block_other rfl ?_ | refine Post.then_exit ?_ | refine Post.then_ret ?_ | refine Post.block_ret ?_ | refine Post.block_normal ?_ | refine WL.lenS (tyS rfl) rfl rfl ?_ | refine WL.lenStr und9 rfl rfl ?_ | refine WL.fieldAddr (tyF rfl) rfl rfl ?_ | refine WL.not rfl rfl ?_ | refine WL.pick_t rfl rfl rfl ?_ | refine WL.pick_f rfl rfl rfl ?_ | refine WL.want rfl rfl ?_ | refine WL.skip rfl rfl rfl rfl ?_ | refine WL.extract rfl rfl rfl ?_)
  refine WL.call _ (fnT rfl) (args1 rfl) (cloneU_c w4 _ (natL ys) ⟨ya, yc, by rw [natL_len], hye.up ((hu2.trans hu3).trans hu4), by rw [natL_len]; exact hycap⟩ (by rw [natL_len]; omega)) (by rintro e w' ⟨_, rfl, _⟩; exact ⟨_, rfl⟩) rfl ?_
  rintro v w5 ⟨yv, hv, hoy, hu5⟩
  have hv := (Ending.returned.inj hv).symm
  subst hv
  refine ⟨trivial, ?_⟩
  have U5 : Up w1 w5 := ((hu2.trans hu3).trans hu4).trans hu5
  have z2 := hu2.size
  have z3 := hu3.size
  have z4 := hu4.size
  have z5 := hu5.size
  obtain ⟨gL, hgL⟩ : ∃ gL, 0 < k → la2 = some ⟨gL, 0, none⟩ ∧ Row w5 gL (lenC k f) 29 := by
    by_cases h0 : 0 < k
    · obtain ⟨gL, h1, _, h3⟩ := hg2 h0
      exact ⟨gL, fun _ => ⟨h1, h3.up ((hu3.trans hu4).trans hu5)⟩⟩
    · exact ⟨0, fun h => absurd h h0⟩
  have hoc5 := ownsRow_up hoc (hu4.trans hu5)
  have hoo5 := ownsRow_up hoo hu5
  obtain ⟨ca2, cc2, hcv, hci, _⟩ := IntsV_own hoc5
  rw [natL_len] at hcv
  subst hcv
  obtain ⟨ya2, yc2, hyv, hyi, hyc2⟩ := IntsV_own hoy
  rw [natL_len] at hyv hyc2
  subst hyv
  obtain ⟨cb, co, hcb⟩ := addr_of hci
  obtain ⟨yb, yo, hyb⟩ := addr_of hyi
  have hok : Src.Ok ⟨la2, gL, 0, lc2, ca2, cb, co, cc2, ya2, yb, yo, yc2, k, alpha, f, ch, ys⟩ := ⟨fun h => (hgL h).1, hcb, hyb, hyc2, by simp only; omega, halp, hf8, by simp only; omega, by simp only; omega, hck, hyk', hcy⟩
  have hAtO : ∀ w', (0 < k → Row w' gL (lenC k f) 29) → Ints .u8 w' ca2 (natL ch) → Ints .u16 w' ya2 (natL ys) → Src.At ⟨la2, gL, 0, lc2, ca2, cb, co, cc2, ya2, yb, yo, yc2, k, alpha, f, ch, ys⟩ w' := fun w' h1 h2 h3 =>
    ⟨fun t u ht hu => by simp only; rw [Nat.zero_add]; exact (h1 (by simp only at ht; omega)).cell (lenC_at ht hu), cells_of h2 hcb, cells_of h3 hyb⟩
  have hAt5 := hAtO w5 (fun h => (hgL h).2) hci hyi
  repeat (first | refine WL.move rfl rfl ?_ | refine WL.assign rfl rfl ?_ | refine W.seq ?_ | refine W.region ?_ | refine WL.nil ?_ | refine Post.next ?_ | refine Post.tail ?_ | refine W.cond_t rfl ?_ | refine W.cond_f rfl ?_ | refine W.block ?_ | refine W.skip ?_ | refine W.exit ?_ | refine W.ret ?_ | refine Post.block_exit ?_ | refine Post.block_other rfl ?_ | refine Post.then_exit ?_ | refine Post.then_ret ?_ | refine Post.block_ret ?_ | refine Post.block_normal ?_ | refine WL.lenS (tyS rfl) rfl rfl ?_ | refine WL.lenStr und9 rfl rfl ?_ | refine WL.fieldAddr (tyF rfl) rfl rfl ?_ | refine WL.not rfl rfl ?_ | refine WL.pick_t rfl rfl rfl ?_ | refine WL.pick_f rfl rfl rfl ?_ | refine WL.want rfl rfl ?_ | refine WL.skip rfl rfl rfl rfl ?_ | refine WL.extract rfl rfl rfl ?_)
  refine WL.call _ (fnT rfl) (args1 rfl) (cloneB_c w5 _ os (IntsV_own hoo5) (by omega)) (by rintro e w' ⟨_, rfl, _⟩; exact ⟨_, rfl⟩) rfl ?_
  rintro v w6 ⟨sv, hv, hos, hu6⟩
  have hv := (Ending.returned.inj hv).symm
  subst hv
  refine ⟨trivial, ?_⟩
  obtain ⟨sa, sc, rfl, _, _⟩ := IntsV_own hos
  have z6 := hu6.size
  repeat (first | refine WL.move rfl rfl ?_ | refine WL.assign rfl rfl ?_ | refine W.seq ?_ | refine W.region ?_ | refine WL.nil ?_ | refine Post.next ?_ | refine Post.tail ?_ | refine W.cond_t rfl ?_ | refine W.cond_f rfl ?_ | refine W.block ?_ | refine W.skip ?_ | refine W.exit ?_ | refine W.ret ?_ | refine Post.block_exit ?_ | refine Post.block_other rfl ?_ | refine Post.then_exit ?_ | refine Post.then_ret ?_ | refine Post.block_ret ?_ | refine Post.block_normal ?_ | refine WL.lenS (tyS rfl) rfl rfl ?_ | refine WL.lenStr und9 rfl rfl ?_ | refine WL.fieldAddr (tyF rfl) rfl rfl ?_ | refine WL.not rfl rfl ?_ | refine WL.pick_t rfl rfl rfl ?_ | refine WL.pick_f rfl rfl rfl ?_ | refine WL.want rfl rfl ?_ | refine WL.skip rfl rfl rfl rfl ?_ | refine WL.extract rfl rfl rfl ?_)
  refine WL.shl rfl rfl (by omega) rfl ?_
  refine WL.sub' rfl rfl rfl ?_
  rw [mask_v (by omega)]
  refine WL.andI rfl rfl rfl ?_
  rw [and_wrap]
  refine WL.conv (kd' := .u8) (tyI rfl) (tyI rfl) rfl rfl ?_
  rw [u8_nat, low_bits (by omega)]
  repeat (first | refine WL.move rfl rfl ?_ | refine WL.assign rfl rfl ?_ | refine W.seq ?_ | refine W.region ?_ | refine WL.nil ?_ | refine Post.next ?_ | refine Post.tail ?_ | refine W.cond_t rfl ?_ | refine W.cond_f rfl ?_ | refine W.block ?_ | refine W.skip ?_ | refine W.exit ?_ | refine W.ret ?_ | refine Post.block_exit ?_ | refine Post.block_other rfl ?_ | refine Post.then_exit ?_ | refine Post.then_ret ?_ | refine Post.block_ret ?_ | refine Post.block_normal ?_ | refine WL.lenS (tyS rfl) rfl rfl ?_ | refine WL.lenStr und9 rfl rfl ?_ | refine WL.fieldAddr (tyF rfl) rfl rfl ?_ | refine WL.not rfl rfl ?_ | refine WL.pick_t rfl rfl rfl ?_ | refine WL.pick_f rfl rfl rfl ?_ | refine WL.want rfl rfl ?_ | refine WL.skip rfl rfl rfl rfl ?_ | refine WL.extract rfl rfl rfl ?_)
  refine WL.build (parts4 rfl rfl rfl rfl) (build34 _ _ _ _ _ _) rfl ?_
  refine WL.alloc zero34 rfl ?_
  intro w7 hg7 hz7 hr7
  refine ⟨trivial, ?_⟩
  refine WL.storeAgg (vs := [.slice sa os.length sc, .int .u8 ((acc % 2 ^ n : Nat) : Int), .int .u64 (n : Int), .int .u64 (acc : Int)]) (o' := 0) (tyA rfl) rfl rfl rfl (by simp [Value.oneCell']) hr7 rfl (by simp) ?_
  intro w8 hg8 hz8 hr8
  refine ⟨trivial, ?_⟩
  have hr8' : Row w8 w6.heap.size [.slice sa os.length sc, .int .u8 ((acc % 2 ^ n : Nat) : Int), .int .u64 (n : Int), .int .u64 (acc : Int)] 34 := hr8
  have hos7 := ownsRow_up hos (Up.grown hg7)
  have hos8 := hos7.kept hg8 (.inr (own_ne_row hos7 hr7 (by decide)))
  have hU58 : Up w5 w8 := (hu6.trans (Up.grown hg7)).step hg8 (by intro q hq; cases hq; exact z6)
  have z8 : w8.heap.size = w6.heap.size + 1 := by omega
  generalize hbd : w6.heap.size = b at *
  generalize hBd : w5.heap.size = B at *
  have hpw8 : PW B b w8 (.slice sa os.length sc) (wrs ⟨os, acc, n⟩ []) := ⟨hr8', hos8, by omega, by show n ≤ 7; omega, hacc⟩
  have hU : ∀ {wx : World} {u : Value}, BStep b w8 (.slice sa os.length sc) wx u → Up w5 wx := fun {wx u} h =>
    ⟨h.os.trans hU58.os, h.tape.trans hU58.tape, h.output.trans hU58.output, Nat.le_trans hU58.size h.size, fun q hq => by
      rw [h.blk q (Nat.lt_of_lt_of_le hq hU58.size) (by omega) (fun e => by have := (hos.lt q e).1; omega), hU58.block hq]⟩
  have S8 := BStep.refl b w8 (.slice sa os.length sc)
  generalize hsvd : Value.slice sa os.length sc = sv at *
  obtain ⟨st0, hst0⟩ : ∃ s : BS, s = ⟨os, acc, n⟩ := ⟨_, rfl⟩
  rw [← hst0] at hpw8
  have hn0 : st0.n ≤ 7 := by rw [hst0]; show n ≤ 7; omega
  have hl0 : st0.bs.length ≤ 1048576 := by rw [hst0]; show os.length ≤ 1048576; omega
  have t0 : tot [] = 0 := rfl
  repeat (first | refine WL.move rfl rfl ?_ | refine WL.assign rfl rfl ?_ | refine W.seq ?_ | refine W.region ?_ | refine WL.nil ?_ | refine Post.next ?_ | refine Post.tail ?_ | refine W.cond_t rfl ?_ | refine W.cond_f rfl ?_ | refine W.block ?_ | refine W.skip ?_ | refine W.exit ?_ | refine W.ret ?_ | refine Post.block_exit ?_ | refine Post.block_other rfl ?_ | refine Post.then_exit ?_ | refine Post.then_ret ?_ | refine Post.block_ret ?_ | refine Post.block_normal ?_ | refine WL.lenS (tyS rfl) rfl rfl ?_ | refine WL.lenStr und9 rfl rfl ?_ | refine WL.fieldAddr (tyF rfl) rfl rfl ?_ | refine WL.not rfl rfl ?_ | refine WL.pick_t rfl rfl rfl ?_ | refine WL.pick_f rfl rfl rfl ?_ | refine WL.want rfl rfl ?_ | refine WL.skip rfl rfl rfl rfl ?_ | refine WL.extract rfl rfl rfl ?_ | refine WL.addI rfl rfl (by omega) rfl ?_ | refine WL.subI rfl rfl (by omega) rfl ?_ | refine WL.indexS (tyS rfl) rfl rfl (by omega) rfl ?_ | refine WL.indexA (tyR rfl) rfl rfl (by omega) rfl ?_)
  refine WL.conv' (kd' := .u64) (tyI rfl) (tyI rfl) rfl (u64w (by omega) (by omega)) rfl ?_
  refine WL.call _ (fnT rfl) (args3 rfl rfl rfl) (putN_o w8 b B _ st0 ([]) k 3 hpw8 hn0 hl0 (by omega) (by omega) (by omega)) (by rintro e w' ⟨rfl, _⟩; exact ⟨_, rfl⟩) rfl ?_
  rintro _ w9 ⟨hv, v9, hb9, hs9⟩
  cases hv
  refine ⟨trivial, ?_⟩
  have t1 : tot ([] ++ [(k, 3)]) = 3 := rfl
  repeat (first | refine WL.move rfl rfl ?_ | refine WL.assign rfl rfl ?_ | refine W.seq ?_ | refine W.region ?_ | refine WL.nil ?_ | refine Post.next ?_ | refine Post.tail ?_ | refine W.cond_t rfl ?_ | refine W.cond_f rfl ?_ | refine W.block ?_ | refine W.skip ?_ | refine W.exit ?_ | refine W.ret ?_ | refine Post.block_exit ?_ | refine Post.block_other rfl ?_ | refine Post.then_exit ?_ | refine Post.then_ret ?_ | refine Post.block_ret ?_ | refine Post.block_normal ?_ | refine WL.lenS (tyS rfl) rfl rfl ?_ | refine WL.lenStr und9 rfl rfl ?_ | refine WL.fieldAddr (tyF rfl) rfl rfl ?_ | refine WL.not rfl rfl ?_ | refine WL.pick_t rfl rfl rfl ?_ | refine WL.pick_f rfl rfl rfl ?_ | refine WL.want rfl rfl ?_ | refine WL.skip rfl rfl rfl rfl ?_ | refine WL.extract rfl rfl rfl ?_ | refine WL.addI rfl rfl (by omega) rfl ?_ | refine WL.subI rfl rfl (by omega) rfl ?_ | refine WL.indexS (tyS rfl) rfl rfl (by omega) rfl ?_ | refine WL.indexA (tyR rfl) rfl rfl (by omega) rfl ?_)
  refine WL.conv' (kd' := .u64) (tyI rfl) (tyI rfl) rfl (u64w (by omega) (by omega)) rfl ?_
  refine WL.call _ (fnT rfl) (args3 rfl rfl rfl) (putN_o w9 b B v9 st0 ([] ++ [(k, 3)]) ch.length 15 hb9 hn0 hl0 (by omega) (by omega) (by omega)) (by rintro e w' ⟨rfl, _⟩; exact ⟨_, rfl⟩) rfl ?_
  rintro _ w10 ⟨hv, v10, hb10, hs10⟩
  cases hv
  refine ⟨trivial, ?_⟩
  have S10 := hs9.trans hs10
  have t2 : tot ([] ++ [(k, 3)] ++ [(ch.length, 15)]) = 18 := rfl
  have e2 : [] ++ [(k, 3)] ++ [(ch.length, 15)] = [(k, 3), (ch.length, 15)] := rfl
  rw [e2] at hb10 t2
  repeat (first | refine WL.move rfl rfl ?_ | refine WL.assign rfl rfl ?_ | refine W.seq ?_ | refine W.region ?_ | refine WL.nil ?_ | refine Post.next ?_ | refine Post.tail ?_ | refine W.cond_t rfl ?_ | refine W.cond_f rfl ?_ | refine W.block ?_ | refine W.skip ?_ | refine W.exit ?_ | refine W.ret ?_ | refine Post.block_exit ?_ | refine Post.block_other rfl ?_ | refine Post.then_exit ?_ | refine Post.then_ret ?_ | refine Post.block_ret ?_ | refine Post.block_normal ?_ | refine WL.lenS (tyS rfl) rfl rfl ?_ | refine WL.lenStr und9 rfl rfl ?_ | refine WL.fieldAddr (tyF rfl) rfl rfl ?_ | refine WL.not rfl rfl ?_ | refine WL.pick_t rfl rfl rfl ?_ | refine WL.pick_f rfl rfl rfl ?_ | refine WL.want rfl rfl ?_ | refine WL.skip rfl rfl rfl rfl ?_ | refine WL.extract rfl rfl rfl ?_ | refine WL.addI rfl rfl (by omega) rfl ?_ | refine WL.subI rfl rfl (by omega) rfl ?_ | refine WL.indexS (tyS rfl) rfl rfl (by omega) rfl ?_ | refine WL.indexA (tyR rfl) rfl rfl (by omega) rfl ?_)
  refine WL.alloc zero37 rfl ?_
  intro w11 hg11 hz11 hr11
  refine ⟨trivial, ?_⟩
  have hb11 := hb10.up hg11
  have S11 := S10.none hg11
  have z10 : w8.heap.size ≤ w10.heap.size := S10.size
  have hr11' : Row w11 w10.heap.size (intsC (List.replicate 6 0)) 37 := by unfold intsC; rw [List.map_replicate]; exact hr11
  generalize hgd : w10.heap.size = g at *
  have hgb : g ≠ b := by omega
  repeat (first | refine WL.move rfl rfl ?_ | refine WL.assign rfl rfl ?_ | refine W.seq ?_ | refine W.region ?_ | refine WL.nil ?_ | refine Post.next ?_ | refine Post.tail ?_ | refine W.cond_t rfl ?_ | refine W.cond_f rfl ?_ | refine W.block ?_ | refine W.skip ?_ | refine W.exit ?_ | refine W.ret ?_ | refine Post.block_exit ?_ | refine Post.block_other rfl ?_ | refine Post.then_exit ?_ | refine Post.then_ret ?_ | refine Post.block_ret ?_ | refine Post.block_normal ?_ | refine WL.lenS (tyS rfl) rfl rfl ?_ | refine WL.lenStr und9 rfl rfl ?_ | refine WL.fieldAddr (tyF rfl) rfl rfl ?_ | refine WL.not rfl rfl ?_ | refine WL.pick_t rfl rfl rfl ?_ | refine WL.pick_f rfl rfl rfl ?_ | refine WL.want rfl rfl ?_ | refine WL.skip rfl rfl rfl rfl ?_ | refine WL.extract rfl rfl rfl ?_ | refine WL.addI rfl rfl (by omega) rfl ?_ | refine WL.subI rfl rfl (by omega) rfl ?_ | refine WL.indexS (tyS rfl) rfl rfl (by omega) rfl ?_ | refine WL.indexA (tyR rfl) rfl rfl (by omega) rfl ?_)
  -- the choices
  refine W.loop6 (fun (j d : Nat) (_ _ : List Int) (_ : List (Nat × Nat)) (_ : Value) => [(0, .slice la2 k lc2), (1, .slice ca2 ch.length cc2), (2, .int .i64 bits), (3, ov), (4, .int .u64 (acc : Int)), (5, .int .u64 (n : Int)), (6, .slice ya2 ys.length yc2), (7, .int .i64 al), (17, .int .i64 k), (22, .pointer (some ⟨b, 0, none⟩)), (23, .pointer (some ⟨g, 0, none⟩)), (24, .int .i64 d), (25, .int .i64 j)])
    (fun j d S A O u wx => j ≤ ch.length ∧ RSq 6 j S A d ∧ O ++ choOps A (ch.drop j) = [(k, 3), (ch.length, 15)] ++ choOps (iotaL 6) ch ∧ tot O ≤ 18 + 6 * j ∧ Row wx g (intsC S) 37 ∧ PW B b wx u (wrs st0 O) ∧ BStep b w8 sv wx u) (fun j _ _ _ _ _ => ch.length - j) 0 0 (List.replicate 6 0) (iotaL 6) [(k, 3), (ch.length, 15)] v10 ⟨rfl, rfl, rfl, rfl, rfl, rfl, rfl, rfl, rfl, rfl, rfl, rfl, rfl, trivial⟩
    ⟨by omega, RSq.start 6, rfl, by omega, hr11', hb11, S11⟩ ?_
  rintro j d S A O u wx ⟨hj, hR, hO, htO, hrx, hbx, Sx⟩
  have hSl := hR.len
  obtain ⟨hAl, hdk⟩ := hR.dle
  repeat (first | refine WL.move rfl rfl ?_ | refine WL.assign rfl rfl ?_ | refine W.seq ?_ | refine W.region ?_ | refine WL.nil ?_ | refine Post.next ?_ | refine Post.tail ?_ | refine W.cond_t rfl ?_ | refine W.cond_f rfl ?_ | refine W.block ?_ | refine W.skip ?_ | refine W.exit ?_ | refine W.ret ?_ | refine Post.block_exit ?_ | refine Post.block_other rfl ?_ | refine Post.then_exit ?_ | refine Post.then_ret ?_ | refine Post.block_ret ?_ | refine Post.block_normal ?_ | refine WL.lenS (tyS rfl) rfl rfl ?_ | refine WL.lenStr und9 rfl rfl ?_ | refine WL.fieldAddr (tyF rfl) rfl rfl ?_ | refine WL.not rfl rfl ?_ | refine WL.pick_t rfl rfl rfl ?_ | refine WL.pick_f rfl rfl rfl ?_ | refine WL.want rfl rfl ?_ | refine WL.skip rfl rfl rfl rfl ?_ | refine WL.extract rfl rfl rfl ?_ | refine WL.addI rfl rfl (by omega) rfl ?_ | refine WL.subI rfl rfl (by omega) rfl ?_ | refine WL.indexS (tyS rfl) rfl rfl (by omega) rfl ?_ | refine WL.indexA (tyR rfl) rfl rfl (by omega) rfl ?_)
  refine WL.lss rfl rfl rfl (fun hlt => ?_) (fun hge => ?_)
  · have hj' : j < ch.length := by omega
    have hc : wx.cell? ⟨cb, co + j, none⟩ = some (.int .u8 (ch[j] : Int)) := (hAt5.up (hU Sx)).c j hj'
    have hca' := hcb (by omega)
    subst hca'
    have hcj := hck j hj'
    have hdrop : ch.drop j = ch[j] :: ch.drop (j + 1) := List.drop_eq_getElem_cons hj'
    rw [hdrop, choOps] at hO
    generalize htd : ch[j] = t at *
    have hsk : t < 6 := by omega
    have hsA : (t : Int) ∈ A := hR.mem.2 (by omega)
    have hpos := hR.pos hsk
    have hstep := hR.step hsk (by omega)
    have hss := sn_atq (S := S) (v := t) (by omega)
    have hcs : (intsC S)[t]? = some (.int .i64 (sn S t)) := by rw [hss]; exact intsC_get (by omega)
    repeat (first | refine WL.move rfl rfl ?_ | refine WL.assign rfl rfl ?_ | refine W.seq ?_ | refine W.region ?_ | refine WL.nil ?_ | refine Post.next ?_ | refine Post.tail ?_ | refine W.cond_t rfl ?_ | refine W.cond_f rfl ?_ | refine W.block ?_ | refine W.skip ?_ | refine W.exit ?_ | refine W.ret ?_ | refine Post.block_exit ?_ | refine Post.block_other rfl ?_ | refine Post.then_exit ?_ | refine Post.then_ret ?_ | refine Post.block_ret ?_ | refine Post.block_normal ?_ | refine WL.lenS (tyS rfl) rfl rfl ?_ | refine WL.lenStr und9 rfl rfl ?_ | refine WL.fieldAddr (tyF rfl) rfl rfl ?_ | refine WL.not rfl rfl ?_ | refine WL.pick_t rfl rfl rfl ?_ | refine WL.pick_f rfl rfl rfl ?_ | refine WL.want rfl rfl ?_ | refine WL.skip rfl rfl rfl rfl ?_ | refine WL.extract rfl rfl rfl ?_ | refine WL.addI rfl rfl (by omega) rfl ?_ | refine WL.subI rfl rfl (by omega) rfl ?_ | refine WL.indexS (tyS rfl) rfl rfl (by omega) rfl ?_ | refine WL.indexA (tyR rfl) rfl rfl (by omega) rfl ?_)
    refine WL.load (o' := co + j) (tyP rfl) rfl (fun _ e => e) hc (by first | omega | (simp; done) | (simp; omega)) rfl ?_
    refine WL.conv' (kd' := .i64) (tyI rfl) (tyI rfl) rfl (i64w (by omega) (by omega)) rfl ?_
    repeat (first | refine WL.move rfl rfl ?_ | refine WL.assign rfl rfl ?_ | refine W.region ?_ | refine WL.nil ?_ | refine Post.next ?_ | refine Post.tail ?_ | refine W.cond_t rfl ?_ | refine W.cond_f rfl ?_ | refine W.block ?_ | refine W.skip ?_ | refine W.exit ?_ | refine W.ret ?_ | refine Post.block_exit ?_ | refine Post.block_other rfl ?_ | refine Post.then_exit ?_ | refine Post.then_ret ?_ | refine Post.block_ret ?_ | refine Post.block_normal ?_ | refine WL.lenS (tyS rfl) rfl rfl ?_ | refine WL.lenStr und9 rfl rfl ?_ | refine WL.fieldAddr (tyF rfl) rfl rfl ?_ | refine WL.not rfl rfl ?_ | refine WL.pick_t rfl rfl rfl ?_ | refine WL.pick_f rfl rfl rfl ?_ | refine WL.want rfl rfl ?_ | refine WL.skip rfl rfl rfl rfl ?_ | refine WL.extract rfl rfl rfl ?_)
    (refine W.seq ?_; repeat (first | refine WL.move rfl rfl ?_ | refine WL.assign rfl rfl ?_ | refine W.region ?_ | refine WL.nil ?_ | refine Post.next ?_ | refine Post.tail ?_ | refine W.cond_t rfl ?_ | refine W.cond_f rfl ?_ | refine W.block ?_ | refine W.skip ?_ | refine W.exit ?_ | refine W.ret ?_ | refine Post.block_exit ?_ | refine Post.block_other rfl ?_ | refine Post.then_exit ?_ | refine Post.then_ret ?_ | refine Post.block_ret ?_ | refine Post.block_normal ?_ | refine WL.lenS (tyS rfl) rfl rfl ?_ | refine WL.lenStr und9 rfl rfl ?_ | refine WL.fieldAddr (tyF rfl) rfl rfl ?_ | refine WL.not rfl rfl ?_ | refine WL.pick_t rfl rfl rfl ?_ | refine WL.pick_f rfl rfl rfl ?_ | refine WL.want rfl rfl ?_ | refine WL.skip rfl rfl rfl rfl ?_ | refine WL.extract rfl rfl rfl ?_))
    refine W.seq_joinE (fun (q : Nat × Nat) => [(0, .slice la2 k lc2), (1, .slice (some ⟨cb, co, none⟩) ch.length cc2), (2, .int .i64 bits), (3, ov), (4, .int .u64 (acc : Int)), (5, .int .u64 (n : Int)), (6, .slice ya2 ys.length yc2), (7, .int .i64 al), (17, .int .i64 k), (22, .pointer (some ⟨b, 0, none⟩)), (23, .pointer (some ⟨g, 0, none⟩)), (24, .int .i64 q.1), (25, .int .i64 j), (26, .int .i64 t), (27, .int .i64 q.2)])
      (fun q w' => q.1 = (if 0 < sn S t then d else d + 1) ∧ q.2 = posL t A ∧ Up wx w') ?_ ?_
    · repeat (first | refine WL.move rfl rfl ?_ | refine WL.assign rfl rfl ?_ | refine W.seq ?_ | refine W.region ?_ | refine WL.nil ?_ | refine Post.next ?_ | refine Post.tail ?_ | refine W.cond_t rfl ?_ | refine W.cond_f rfl ?_ | refine W.block ?_ | refine W.skip ?_ | refine W.exit ?_ | refine W.ret ?_ | refine Post.block_exit ?_ | refine Post.block_other rfl ?_ | refine Post.then_exit ?_ | refine Post.then_ret ?_ | refine Post.block_ret ?_ | refine Post.block_normal ?_ | refine WL.lenS (tyS rfl) rfl rfl ?_ | refine WL.lenStr und9 rfl rfl ?_ | refine WL.fieldAddr (tyF rfl) rfl rfl ?_ | refine WL.not rfl rfl ?_ | refine WL.pick_t rfl rfl rfl ?_ | refine WL.pick_f rfl rfl rfl ?_ | refine WL.want rfl rfl ?_ | refine WL.skip rfl rfl rfl rfl ?_ | refine WL.extract rfl rfl rfl ?_ | refine WL.addI rfl rfl (by omega) rfl ?_ | refine WL.subI rfl rfl (by omega) rfl ?_ | refine WL.indexS (tyS rfl) rfl rfl (by omega) rfl ?_ | refine WL.indexA (tyR rfl) rfl rfl (by omega) rfl ?_)
      refine WL.load (o' := t) (tyP rfl) rfl (fun _ e => e) (hrx.cell hcs) (by first | omega | (simp; done) | (simp; omega)) rfl ?_
      repeat (first | refine WL.move rfl rfl ?_ | refine WL.assign rfl rfl ?_ | refine W.seq ?_ | refine W.region ?_ | refine WL.nil ?_ | refine Post.next ?_ | refine Post.tail ?_ | refine W.cond_t rfl ?_ | refine W.cond_f rfl ?_ | refine W.block ?_ | refine W.skip ?_ | refine W.exit ?_ | refine W.ret ?_ | refine Post.block_exit ?_ | refine Post.block_other rfl ?_ | refine Post.then_exit ?_ | refine Post.then_ret ?_ | refine Post.block_ret ?_ | refine Post.block_normal ?_ | refine WL.lenS (tyS rfl) rfl rfl ?_ | refine WL.lenStr und9 rfl rfl ?_ | refine WL.fieldAddr (tyF rfl) rfl rfl ?_ | refine WL.not rfl rfl ?_ | refine WL.pick_t rfl rfl rfl ?_ | refine WL.pick_f rfl rfl rfl ?_ | refine WL.want rfl rfl ?_ | refine WL.skip rfl rfl rfl rfl ?_ | refine WL.extract rfl rfl rfl ?_ | refine WL.addI rfl rfl (by omega) rfl ?_ | refine WL.subI rfl rfl (by omega) rfl ?_ | refine WL.indexS (tyS rfl) rfl rfl (by omega) rfl ?_ | refine WL.indexA (tyR rfl) rfl rfl (by omega) rfl ?_)
      refine WL.gtr rfl rfl rfl (fun hsp => ?_) (fun hsz => ?_)
      · rw [if_pos hsp] at hpos
        repeat (first | refine WL.move rfl rfl ?_ | refine WL.assign rfl rfl ?_ | refine W.seq ?_ | refine W.region ?_ | refine WL.nil ?_ | refine Post.next ?_ | refine Post.tail ?_ | refine W.cond_t rfl ?_ | refine W.cond_f rfl ?_ | refine W.block ?_ | refine W.skip ?_ | refine W.exit ?_ | refine W.ret ?_ | refine Post.block_exit ?_ | refine Post.block_other rfl ?_ | refine Post.then_exit ?_ | refine Post.then_ret ?_ | refine Post.block_ret ?_ | refine Post.block_normal ?_ | refine WL.lenS (tyS rfl) rfl rfl ?_ | refine WL.lenStr und9 rfl rfl ?_ | refine WL.fieldAddr (tyF rfl) rfl rfl ?_ | refine WL.not rfl rfl ?_ | refine WL.pick_t rfl rfl rfl ?_ | refine WL.pick_f rfl rfl rfl ?_ | refine WL.want rfl rfl ?_ | refine WL.skip rfl rfl rfl rfl ?_ | refine WL.extract rfl rfl rfl ?_ | refine WL.addI rfl rfl (by omega) rfl ?_ | refine WL.subI rfl rfl (by omega) rfl ?_ | refine WL.indexS (tyS rfl) rfl rfl (by omega) rfl ?_ | refine WL.indexA (tyR rfl) rfl rfl (by omega) rfl ?_)
        refine W.loop2 (fun (v c : Nat) => [(0, .slice la2 k lc2), (1, .slice (some ⟨cb, co, none⟩) ch.length cc2), (2, .int .i64 bits), (3, ov), (4, .int .u64 (acc : Int)), (5, .int .u64 (n : Int)), (6, .slice ya2 ys.length yc2), (7, .int .i64 al), (17, .int .i64 k), (22, .pointer (some ⟨b, 0, none⟩)), (23, .pointer (some ⟨g, 0, none⟩)), (24, .int .i64 d), (25, .int .i64 j), (26, .int .i64 t), (27, .int .i64 c), (28, .int .i64 v)])
          (fun v c wv => v ≤ 6 ∧ c = cnt (fun v => decide (sn S t < sn S v)) v ∧ Up wx wv) (fun v _ => 6 - v) 0 0 ⟨rfl, rfl, rfl, rfl, rfl, rfl, rfl, rfl, rfl, rfl, rfl, rfl, rfl, rfl, rfl, rfl, trivial⟩ ⟨by omega, rfl, Up.refl wx⟩ ?_
        rintro v c wv ⟨hv, hcn, huv⟩
        have hcl' := cnt_le (fun v => decide (sn S t < sn S v)) v
        repeat (first | refine WL.move rfl rfl ?_ | refine WL.assign rfl rfl ?_ | refine W.seq ?_ | refine W.region ?_ | refine WL.nil ?_ | refine Post.next ?_ | refine Post.tail ?_ | refine W.cond_t rfl ?_ | refine W.cond_f rfl ?_ | refine W.block ?_ | refine W.skip ?_ | refine W.exit ?_ | refine W.ret ?_ | refine Post.block_exit ?_ | refine Post.block_other rfl ?_ | refine Post.then_exit ?_ | refine Post.then_ret ?_ | refine Post.block_ret ?_ | refine Post.block_normal ?_ | refine WL.lenS (tyS rfl) rfl rfl ?_ | refine WL.lenStr und9 rfl rfl ?_ | refine WL.fieldAddr (tyF rfl) rfl rfl ?_ | refine WL.not rfl rfl ?_ | refine WL.pick_t rfl rfl rfl ?_ | refine WL.pick_f rfl rfl rfl ?_ | refine WL.want rfl rfl ?_ | refine WL.skip rfl rfl rfl rfl ?_ | refine WL.extract rfl rfl rfl ?_ | refine WL.addI rfl rfl (by omega) rfl ?_ | refine WL.subI rfl rfl (by omega) rfl ?_ | refine WL.indexS (tyS rfl) rfl rfl (by omega) rfl ?_ | refine WL.indexA (tyR rfl) rfl rfl (by omega) rfl ?_)
        refine WL.lss rfl rfl rfl (fun hlt2 => ?_) (fun hge2 => ?_)
        · have hudv := huv.trans (Up.drew wv)
          have hrv := hrx.up hudv
          have hvv := sn_atq (S := S) (v := v) (by omega)
          have hcv : (intsC S)[v]? = some (.int .i64 (sn S v)) := by rw [hvv]; exact intsC_get (by omega)
          repeat (first | refine WL.move rfl rfl ?_ | refine WL.assign rfl rfl ?_ | refine W.seq ?_ | refine W.region ?_ | refine WL.nil ?_ | refine Post.next ?_ | refine Post.tail ?_ | refine W.cond_t rfl ?_ | refine W.cond_f rfl ?_ | refine W.block ?_ | refine W.skip ?_ | refine W.exit ?_ | refine W.ret ?_ | refine Post.block_exit ?_ | refine Post.block_other rfl ?_ | refine Post.then_exit ?_ | refine Post.then_ret ?_ | refine Post.block_ret ?_ | refine Post.block_normal ?_ | refine WL.lenS (tyS rfl) rfl rfl ?_ | refine WL.lenStr und9 rfl rfl ?_ | refine WL.fieldAddr (tyF rfl) rfl rfl ?_ | refine WL.not rfl rfl ?_ | refine WL.pick_t rfl rfl rfl ?_ | refine WL.pick_f rfl rfl rfl ?_ | refine WL.want rfl rfl ?_ | refine WL.skip rfl rfl rfl rfl ?_ | refine WL.extract rfl rfl rfl ?_)
          refine W.region_q mixed (by kernel_rfl) ?_
          repeat (first | refine WL.move rfl rfl ?_ | refine WL.assign rfl rfl ?_ | refine W.seq ?_ | refine W.region ?_ | refine WL.nil ?_ | refine Post.next ?_ | refine Post.tail ?_ | refine W.cond_t rfl ?_ | refine W.cond_f rfl ?_ | refine W.block ?_ | refine W.skip ?_ | refine W.exit ?_ | refine W.ret ?_ | refine Post.block_exit ?_ | refine Post.block_other rfl ?_ | refine Post.then_exit ?_ | refine Post.then_ret ?_ | refine Post.block_ret ?_ | refine Post.block_normal ?_ | refine WL.lenS (tyS rfl) rfl rfl ?_ | refine WL.lenStr und9 rfl rfl ?_ | refine WL.fieldAddr (tyF rfl) rfl rfl ?_ | refine WL.not rfl rfl ?_ | refine WL.pick_t rfl rfl rfl ?_ | refine WL.pick_f rfl rfl rfl ?_ | refine WL.want rfl rfl ?_ | refine WL.skip rfl rfl rfl rfl ?_ | refine WL.extract rfl rfl rfl ?_ | refine WL.addI rfl rfl (by omega) rfl ?_ | refine WL.subI rfl rfl (by omega) rfl ?_ | refine WL.indexS (tyS rfl) rfl rfl (by omega) rfl ?_ | refine WL.indexA (tyR rfl) rfl rfl (by omega) rfl ?_)
          refine WL.load (o' := v) (tyP rfl) rfl (fun _ e => e) (hrv.cell hcv) (by first | omega | (simp; done) | (simp; omega)) rfl ?_
          repeat (first | refine WL.move rfl rfl ?_ | refine WL.assign rfl rfl ?_ | refine W.seq ?_ | refine W.region ?_ | refine WL.nil ?_ | refine Post.next ?_ | refine Post.tail ?_ | refine W.cond_t rfl ?_ | refine W.cond_f rfl ?_ | refine W.block ?_ | refine W.skip ?_ | refine W.exit ?_ | refine W.ret ?_ | refine Post.block_exit ?_ | refine Post.block_other rfl ?_ | refine Post.then_exit ?_ | refine Post.then_ret ?_ | refine Post.block_ret ?_ | refine Post.block_normal ?_ | refine WL.lenS (tyS rfl) rfl rfl ?_ | refine WL.lenStr und9 rfl rfl ?_ | refine WL.fieldAddr (tyF rfl) rfl rfl ?_ | refine WL.not rfl rfl ?_ | refine WL.pick_t rfl rfl rfl ?_ | refine WL.pick_f rfl rfl rfl ?_ | refine WL.want rfl rfl ?_ | refine WL.skip rfl rfl rfl rfl ?_ | refine WL.extract rfl rfl rfl ?_ | refine WL.addI rfl rfl (by omega) rfl ?_ | refine WL.subI rfl rfl (by omega) rfl ?_ | refine WL.indexS (tyS rfl) rfl rfl (by omega) rfl ?_ | refine WL.indexA (tyR rfl) rfl rfl (by omega) rfl ?_)
          refine WL.load (o' := t) (tyP rfl) rfl (fun _ e => e) (hrv.cell hcs) (by first | omega | (simp; done) | (simp; omega)) rfl ?_
          repeat (first | refine WL.move rfl rfl ?_ | refine WL.assign rfl rfl ?_ | refine W.seq ?_ | refine W.region ?_ | refine WL.nil ?_ | refine Post.next ?_ | refine Post.tail ?_ | refine W.cond_t rfl ?_ | refine W.cond_f rfl ?_ | refine W.block ?_ | refine W.skip ?_ | refine W.exit ?_ | refine W.ret ?_ | refine Post.block_exit ?_ | refine Post.block_other rfl ?_ | refine Post.then_exit ?_ | refine Post.then_ret ?_ | refine Post.block_ret ?_ | refine Post.block_normal ?_ | refine WL.lenS (tyS rfl) rfl rfl ?_ | refine WL.lenStr und9 rfl rfl ?_ | refine WL.fieldAddr (tyF rfl) rfl rfl ?_ | refine WL.not rfl rfl ?_ | refine WL.pick_t rfl rfl rfl ?_ | refine WL.pick_f rfl rfl rfl ?_ | refine WL.want rfl rfl ?_ | refine WL.skip rfl rfl rfl rfl ?_ | refine WL.extract rfl rfl rfl ?_)
          refine WL.gtr rfl rfl rfl (fun hg1 => ?_) (fun hg2 => ?_)
          · have hc' : c + 1 = cnt (fun v => decide (sn S t < sn S v)) (v + 1) := by rw [cnt, ← hcn]; simp [hg1]
            repeat (first | refine WL.move rfl rfl ?_ | refine WL.assign rfl rfl ?_ | refine W.seq ?_ | refine W.region ?_ | refine WL.nil ?_ | refine Post.next ?_ | refine Post.tail ?_ | refine W.cond_t rfl ?_ | refine W.cond_f rfl ?_ | refine W.block ?_ | refine W.skip ?_ | refine W.exit ?_ | refine W.ret ?_ | refine Post.block_exit ?_ | refine Post.block_other rfl ?_ | refine Post.then_exit ?_ | refine Post.then_ret ?_ | refine Post.block_ret ?_ | refine Post.block_normal ?_ | refine WL.lenS (tyS rfl) rfl rfl ?_ | refine WL.lenStr und9 rfl rfl ?_ | refine WL.fieldAddr (tyF rfl) rfl rfl ?_ | refine WL.not rfl rfl ?_ | refine WL.pick_t rfl rfl rfl ?_ | refine WL.pick_f rfl rfl rfl ?_ | refine WL.want rfl rfl ?_ | refine WL.skip rfl rfl rfl rfl ?_ | refine WL.extract rfl rfl rfl ?_ | refine WL.addI rfl rfl (by omega) rfl ?_ | refine WL.subI rfl rfl (by omega) rfl ?_ | refine WL.indexS (tyS rfl) rfl rfl (by omega) rfl ?_ | refine WL.indexA (tyR rfl) rfl rfl (by omega) rfl ?_)
            exact Post.round2 (v + 1) (c + 1) ⟨rfl, rfl, rfl, rfl, rfl, rfl, rfl, rfl, rfl, rfl, rfl, rfl, rfl, rfl, (by first | rfl | (simp [look]; done) | (simp [look]; omega)), (by first | rfl | (simp [look]; done) | (simp [look]; omega)), trivial⟩ ⟨by omega, hc', hudv⟩ (by omega)
          · have hc' : c = cnt (fun v => decide (sn S t < sn S v)) (v + 1) := by
              have : ¬ sn S t < sn S v := by omega
              rw [cnt, ← hcn]; simp [this]
            repeat (first | refine WL.move rfl rfl ?_ | refine WL.assign rfl rfl ?_ | refine W.seq ?_ | refine W.region ?_ | refine WL.nil ?_ | refine Post.next ?_ | refine Post.tail ?_ | refine W.cond_t rfl ?_ | refine W.cond_f rfl ?_ | refine W.block ?_ | refine W.skip ?_ | refine W.exit ?_ | refine W.ret ?_ | refine Post.block_exit ?_ | refine Post.block_other rfl ?_ | refine Post.then_exit ?_ | refine Post.then_ret ?_ | refine Post.block_ret ?_ | refine Post.block_normal ?_ | refine WL.lenS (tyS rfl) rfl rfl ?_ | refine WL.lenStr und9 rfl rfl ?_ | refine WL.fieldAddr (tyF rfl) rfl rfl ?_ | refine WL.not rfl rfl ?_ | refine WL.pick_t rfl rfl rfl ?_ | refine WL.pick_f rfl rfl rfl ?_ | refine WL.want rfl rfl ?_ | refine WL.skip rfl rfl rfl rfl ?_ | refine WL.extract rfl rfl rfl ?_ | refine WL.addI rfl rfl (by omega) rfl ?_ | refine WL.subI rfl rfl (by omega) rfl ?_ | refine WL.indexS (tyS rfl) rfl rfl (by omega) rfl ?_ | refine WL.indexA (tyR rfl) rfl rfl (by omega) rfl ?_)
            exact Post.round2 (v + 1) c ⟨rfl, rfl, rfl, rfl, rfl, rfl, rfl, rfl, rfl, rfl, rfl, rfl, rfl, rfl, rfl, (by first | rfl | (simp [look]; done) | (simp [look]; omega)), trivial⟩ ⟨by omega, hc', hudv⟩ (by omega)
        · have hvk : v = 6 := by omega
          subst hvk
          repeat (first | refine WL.move rfl rfl ?_ | refine WL.assign rfl rfl ?_ | refine W.seq ?_ | refine W.region ?_ | refine WL.nil ?_ | refine Post.next ?_ | refine Post.tail ?_ | refine W.cond_t rfl ?_ | refine W.cond_f rfl ?_ | refine W.block ?_ | refine W.skip ?_ | refine W.exit ?_ | refine W.ret ?_ | refine Post.block_exit ?_ | refine Post.block_other rfl ?_ | refine Post.then_exit ?_ | refine Post.then_ret ?_ | refine Post.block_ret ?_ | refine Post.block_normal ?_ | refine WL.lenS (tyS rfl) rfl rfl ?_ | refine WL.lenStr und9 rfl rfl ?_ | refine WL.fieldAddr (tyF rfl) rfl rfl ?_ | refine WL.not rfl rfl ?_ | refine WL.pick_t rfl rfl rfl ?_ | refine WL.pick_f rfl rfl rfl ?_ | refine WL.want rfl rfl ?_ | refine WL.skip rfl rfl rfl rfl ?_ | refine WL.extract rfl rfl rfl ?_ | refine WL.addI rfl rfl (by omega) rfl ?_ | refine WL.subI rfl rfl (by omega) rfl ?_ | refine WL.indexS (tyS rfl) rfl rfl (by omega) rfl ?_ | refine WL.indexA (tyR rfl) rfl rfl (by omega) rfl ?_)
          exact Post.joinE (d, c) ⟨rfl, rfl, rfl, rfl, rfl, rfl, rfl, rfl, rfl, rfl, rfl, rfl, rfl, rfl, rfl, trivial⟩ ⟨by rw [if_pos hsp], by rw [hpos]; exact hcn, huv⟩
      · have hns : ¬ 0 < sn S t := by omega
        rw [if_neg hns] at hpos
        repeat (first | refine WL.move rfl rfl ?_ | refine WL.assign rfl rfl ?_ | refine W.seq ?_ | refine W.region ?_ | refine WL.nil ?_ | refine Post.next ?_ | refine Post.tail ?_ | refine W.cond_t rfl ?_ | refine W.cond_f rfl ?_ | refine W.block ?_ | refine W.skip ?_ | refine W.exit ?_ | refine W.ret ?_ | refine Post.block_exit ?_ | refine Post.block_other rfl ?_ | refine Post.then_exit ?_ | refine Post.then_ret ?_ | refine Post.block_ret ?_ | refine Post.block_normal ?_ | refine WL.lenS (tyS rfl) rfl rfl ?_ | refine WL.lenStr und9 rfl rfl ?_ | refine WL.fieldAddr (tyF rfl) rfl rfl ?_ | refine WL.not rfl rfl ?_ | refine WL.pick_t rfl rfl rfl ?_ | refine WL.pick_f rfl rfl rfl ?_ | refine WL.want rfl rfl ?_ | refine WL.skip rfl rfl rfl rfl ?_ | refine WL.extract rfl rfl rfl ?_ | refine WL.addI rfl rfl (by omega) rfl ?_ | refine WL.subI rfl rfl (by omega) rfl ?_ | refine WL.indexS (tyS rfl) rfl rfl (by omega) rfl ?_ | refine WL.indexA (tyR rfl) rfl rfl (by omega) rfl ?_)
        refine W.loop2 (fun (v c : Nat) => [(0, .slice la2 k lc2), (1, .slice (some ⟨cb, co, none⟩) ch.length cc2), (2, .int .i64 bits), (3, ov), (4, .int .u64 (acc : Int)), (5, .int .u64 (n : Int)), (6, .slice ya2 ys.length yc2), (7, .int .i64 al), (17, .int .i64 k), (22, .pointer (some ⟨b, 0, none⟩)), (23, .pointer (some ⟨g, 0, none⟩)), (24, .int .i64 d), (25, .int .i64 j), (26, .int .i64 t), (27, .int .i64 c), (29, .int .i64 v)])
          (fun v c wv => v ≤ t ∧ c = d + cnt (fun v => decide (sn S v = 0)) v ∧ Up wx wv) (fun v _ => t - v) 0 d ⟨rfl, rfl, rfl, rfl, rfl, rfl, rfl, rfl, rfl, rfl, rfl, rfl, rfl, rfl, rfl, rfl, trivial⟩ ⟨by omega, rfl, Up.refl wx⟩ ?_
        rintro v c wv ⟨hv, hcn, huv⟩
        have hcl' := cnt_le (fun v => decide (sn S v = 0)) v
        repeat (first | refine WL.move rfl rfl ?_ | refine WL.assign rfl rfl ?_ | refine W.seq ?_ | refine W.region ?_ | refine WL.nil ?_ | refine Post.next ?_ | refine Post.tail ?_ | refine W.cond_t rfl ?_ | refine W.cond_f rfl ?_ | refine W.block ?_ | refine W.skip ?_ | refine W.exit ?_ | refine W.ret ?_ | refine Post.block_exit ?_ | refine Post.block_other rfl ?_ | refine Post.then_exit ?_ | refine Post.then_ret ?_ | refine Post.block_ret ?_ | refine Post.block_normal ?_ | refine WL.lenS (tyS rfl) rfl rfl ?_ | refine WL.lenStr und9 rfl rfl ?_ | refine WL.fieldAddr (tyF rfl) rfl rfl ?_ | refine WL.not rfl rfl ?_ | refine WL.pick_t rfl rfl rfl ?_ | refine WL.pick_f rfl rfl rfl ?_ | refine WL.want rfl rfl ?_ | refine WL.skip rfl rfl rfl rfl ?_ | refine WL.extract rfl rfl rfl ?_ | refine WL.addI rfl rfl (by omega) rfl ?_ | refine WL.subI rfl rfl (by omega) rfl ?_ | refine WL.indexS (tyS rfl) rfl rfl (by omega) rfl ?_ | refine WL.indexA (tyR rfl) rfl rfl (by omega) rfl ?_)
        refine WL.lss rfl rfl rfl (fun hlt2 => ?_) (fun hge2 => ?_)
        · have hrv := hrx.up huv
          have hvv := sn_atq (S := S) (v := v) (by omega)
          have hcv : (intsC S)[v]? = some (.int .i64 (sn S v)) := by rw [hvv]; exact intsC_get (by omega)
          repeat (first | refine WL.move rfl rfl ?_ | refine WL.assign rfl rfl ?_ | refine W.seq ?_ | refine W.region ?_ | refine WL.nil ?_ | refine Post.next ?_ | refine Post.tail ?_ | refine W.cond_t rfl ?_ | refine W.cond_f rfl ?_ | refine W.block ?_ | refine W.skip ?_ | refine W.exit ?_ | refine W.ret ?_ | refine Post.block_exit ?_ | refine Post.block_other rfl ?_ | refine Post.then_exit ?_ | refine Post.then_ret ?_ | refine Post.block_ret ?_ | refine Post.block_normal ?_ | refine WL.lenS (tyS rfl) rfl rfl ?_ | refine WL.lenStr und9 rfl rfl ?_ | refine WL.fieldAddr (tyF rfl) rfl rfl ?_ | refine WL.not rfl rfl ?_ | refine WL.pick_t rfl rfl rfl ?_ | refine WL.pick_f rfl rfl rfl ?_ | refine WL.want rfl rfl ?_ | refine WL.skip rfl rfl rfl rfl ?_ | refine WL.extract rfl rfl rfl ?_ | refine WL.addI rfl rfl (by omega) rfl ?_ | refine WL.subI rfl rfl (by omega) rfl ?_ | refine WL.indexS (tyS rfl) rfl rfl (by omega) rfl ?_ | refine WL.indexA (tyR rfl) rfl rfl (by omega) rfl ?_)
          refine WL.load (o' := v) (tyP rfl) rfl (fun _ e => e) (hrv.cell hcv) (by first | omega | (simp; done) | (simp; omega)) rfl ?_
          repeat (first | refine WL.move rfl rfl ?_ | refine WL.assign rfl rfl ?_ | refine W.seq ?_ | refine W.region ?_ | refine WL.nil ?_ | refine Post.next ?_ | refine Post.tail ?_ | refine W.cond_t rfl ?_ | refine W.cond_f rfl ?_ | refine W.block ?_ | refine W.skip ?_ | refine W.exit ?_ | refine W.ret ?_ | refine Post.block_exit ?_ | refine Post.block_other rfl ?_ | refine Post.then_exit ?_ | refine Post.then_ret ?_ | refine Post.block_ret ?_ | refine Post.block_normal ?_ | refine WL.lenS (tyS rfl) rfl rfl ?_ | refine WL.lenStr und9 rfl rfl ?_ | refine WL.fieldAddr (tyF rfl) rfl rfl ?_ | refine WL.not rfl rfl ?_ | refine WL.pick_t rfl rfl rfl ?_ | refine WL.pick_f rfl rfl rfl ?_ | refine WL.want rfl rfl ?_ | refine WL.skip rfl rfl rfl rfl ?_ | refine WL.extract rfl rfl rfl ?_)
          refine WL.eqI rfl rfl rfl (fun hg1 => ?_) (fun hg2 => ?_)
          · have hc' : c + 1 = d + cnt (fun v => decide (sn S v = 0)) (v + 1) := by rw [cnt, hcn]; simp [hg1]; omega
            repeat (first | refine WL.move rfl rfl ?_ | refine WL.assign rfl rfl ?_ | refine W.seq ?_ | refine W.region ?_ | refine WL.nil ?_ | refine Post.next ?_ | refine Post.tail ?_ | refine W.cond_t rfl ?_ | refine W.cond_f rfl ?_ | refine W.block ?_ | refine W.skip ?_ | refine W.exit ?_ | refine W.ret ?_ | refine Post.block_exit ?_ | refine Post.block_other rfl ?_ | refine Post.then_exit ?_ | refine Post.then_ret ?_ | refine Post.block_ret ?_ | refine Post.block_normal ?_ | refine WL.lenS (tyS rfl) rfl rfl ?_ | refine WL.lenStr und9 rfl rfl ?_ | refine WL.fieldAddr (tyF rfl) rfl rfl ?_ | refine WL.not rfl rfl ?_ | refine WL.pick_t rfl rfl rfl ?_ | refine WL.pick_f rfl rfl rfl ?_ | refine WL.want rfl rfl ?_ | refine WL.skip rfl rfl rfl rfl ?_ | refine WL.extract rfl rfl rfl ?_ | refine WL.addI rfl rfl (by omega) rfl ?_ | refine WL.subI rfl rfl (by omega) rfl ?_ | refine WL.indexS (tyS rfl) rfl rfl (by omega) rfl ?_ | refine WL.indexA (tyR rfl) rfl rfl (by omega) rfl ?_)
            exact Post.round2 (v + 1) (c + 1) ⟨rfl, rfl, rfl, rfl, rfl, rfl, rfl, rfl, rfl, rfl, rfl, rfl, rfl, rfl, (by first | rfl | (simp [look]; done) | (simp [look]; omega)), (by first | rfl | (simp [look]; done) | (simp [look]; omega)), trivial⟩ ⟨by omega, hc', huv⟩ (by omega)
          · have hc' : c = d + cnt (fun v => decide (sn S v = 0)) (v + 1) := by rw [cnt, hcn]; simp [hg2]
            repeat (first | refine WL.move rfl rfl ?_ | refine WL.assign rfl rfl ?_ | refine W.seq ?_ | refine W.region ?_ | refine WL.nil ?_ | refine Post.next ?_ | refine Post.tail ?_ | refine W.cond_t rfl ?_ | refine W.cond_f rfl ?_ | refine W.block ?_ | refine W.skip ?_ | refine W.exit ?_ | refine W.ret ?_ | refine Post.block_exit ?_ | refine Post.block_other rfl ?_ | refine Post.then_exit ?_ | refine Post.then_ret ?_ | refine Post.block_ret ?_ | refine Post.block_normal ?_ | refine WL.lenS (tyS rfl) rfl rfl ?_ | refine WL.lenStr und9 rfl rfl ?_ | refine WL.fieldAddr (tyF rfl) rfl rfl ?_ | refine WL.not rfl rfl ?_ | refine WL.pick_t rfl rfl rfl ?_ | refine WL.pick_f rfl rfl rfl ?_ | refine WL.want rfl rfl ?_ | refine WL.skip rfl rfl rfl rfl ?_ | refine WL.extract rfl rfl rfl ?_ | refine WL.addI rfl rfl (by omega) rfl ?_ | refine WL.subI rfl rfl (by omega) rfl ?_ | refine WL.indexS (tyS rfl) rfl rfl (by omega) rfl ?_ | refine WL.indexA (tyR rfl) rfl rfl (by omega) rfl ?_)
            exact Post.round2 (v + 1) c ⟨rfl, rfl, rfl, rfl, rfl, rfl, rfl, rfl, rfl, rfl, rfl, rfl, rfl, rfl, rfl, (by first | rfl | (simp [look]; done) | (simp [look]; omega)), trivial⟩ ⟨by omega, hc', huv⟩ (by omega)
        · have hvk : v = t := by omega
          subst hvk
          repeat (first | refine WL.move rfl rfl ?_ | refine WL.assign rfl rfl ?_ | refine W.seq ?_ | refine W.region ?_ | refine WL.nil ?_ | refine Post.next ?_ | refine Post.tail ?_ | refine W.cond_t rfl ?_ | refine W.cond_f rfl ?_ | refine W.block ?_ | refine W.skip ?_ | refine W.exit ?_ | refine W.ret ?_ | refine Post.block_exit ?_ | refine Post.block_other rfl ?_ | refine Post.then_exit ?_ | refine Post.then_ret ?_ | refine Post.block_ret ?_ | refine Post.block_normal ?_ | refine WL.lenS (tyS rfl) rfl rfl ?_ | refine WL.lenStr und9 rfl rfl ?_ | refine WL.fieldAddr (tyF rfl) rfl rfl ?_ | refine WL.not rfl rfl ?_ | refine WL.pick_t rfl rfl rfl ?_ | refine WL.pick_f rfl rfl rfl ?_ | refine WL.want rfl rfl ?_ | refine WL.skip rfl rfl rfl rfl ?_ | refine WL.extract rfl rfl rfl ?_ | refine WL.addI rfl rfl (by omega) rfl ?_ | refine WL.subI rfl rfl (by omega) rfl ?_ | refine WL.indexS (tyS rfl) rfl rfl (by omega) rfl ?_ | refine WL.indexA (tyR rfl) rfl rfl (by omega) rfl ?_)
          exact Post.joinE (d + 1, c) ⟨rfl, rfl, rfl, rfl, rfl, rfl, rfl, rfl, rfl, rfl, rfl, (by first | rfl | (simp [look]; done) | (simp [look]; omega)), rfl, rfl, rfl, trivial⟩ ⟨by rw [if_neg hns], by rw [hpos]; exact hcn, huv⟩
    rintro ⟨d', p⟩ wj ⟨hd', hp, huj⟩
    simp only at hd' hp
    rw [← hd'] at hstep
    clear hpos
    have hrj := hrx.up huj
    have hgj : wx.grownBy wj none := ⟨huj.os, huj.tape, huj.output, huj.size, fun _ hk _ => huj.block hk⟩
    have hbj := hbx.up hgj
    have Sj := Sx.none hgj
    obtain ⟨_, hpl⟩ := outL_append (Z := []) hsA
    rw [List.append_nil, ← hp] at hpl
    rw [← hp] at hO
    repeat (first | refine WL.move rfl rfl ?_ | refine WL.assign rfl rfl ?_ | refine W.seq ?_ | refine W.region ?_ | refine WL.nil ?_ | refine Post.next ?_ | refine Post.tail ?_ | refine W.cond_t rfl ?_ | refine W.cond_f rfl ?_ | refine W.block ?_ | refine W.skip ?_ | refine W.exit ?_ | refine W.ret ?_ | refine Post.block_exit ?_ | refine Post.block_other rfl ?_ | refine Post.then_exit ?_ | refine Post.then_ret ?_ | refine Post.block_ret ?_ | refine Post.block_normal ?_ | refine WL.lenS (tyS rfl) rfl rfl ?_ | refine WL.lenStr und9 rfl rfl ?_ | refine WL.fieldAddr (tyF rfl) rfl rfl ?_ | refine WL.not rfl rfl ?_ | refine WL.pick_t rfl rfl rfl ?_ | refine WL.pick_f rfl rfl rfl ?_ | refine WL.want rfl rfl ?_ | refine WL.skip rfl rfl rfl rfl ?_ | refine WL.extract rfl rfl rfl ?_ | refine WL.addI rfl rfl (by omega) rfl ?_ | refine WL.subI rfl rfl (by omega) rfl ?_ | refine WL.indexS (tyS rfl) rfl rfl (by omega) rfl ?_ | refine WL.indexA (tyR rfl) rfl rfl (by omega) rfl ?_)
    refine WL.store (o' := t) (tyP rfl) rfl rfl rfl hrj (by first | omega | (simp; done) | (simp; omega)) (by simp only [intsC, List.length_map]; omega) ?_
    intro w12 hg12 hz12 hr12
    refine ⟨trivial, ?_⟩
    rw [spl_setI _ _ _ (by omega)] at hr12
    have hb12 := hbj.new hg12 hgb hrj (by decide)
    have S12 := Sj.new hg12 (by omega)
    repeat (first | refine WL.move rfl rfl ?_ | refine WL.assign rfl rfl ?_ | refine W.seq ?_ | refine W.region ?_ | refine WL.nil ?_ | refine Post.next ?_ | refine Post.tail ?_ | refine W.cond_t rfl ?_ | refine W.cond_f rfl ?_ | refine W.block ?_ | refine W.skip ?_ | refine W.exit ?_ | refine W.ret ?_ | refine Post.block_exit ?_ | refine Post.block_other rfl ?_ | refine Post.then_exit ?_ | refine Post.then_ret ?_ | refine Post.block_ret ?_ | refine Post.block_normal ?_ | refine WL.lenS (tyS rfl) rfl rfl ?_ | refine WL.lenStr und9 rfl rfl ?_ | refine WL.fieldAddr (tyF rfl) rfl rfl ?_ | refine WL.not rfl rfl ?_ | refine WL.pick_t rfl rfl rfl ?_ | refine WL.pick_f rfl rfl rfl ?_ | refine WL.want rfl rfl ?_ | refine WL.skip rfl rfl rfl rfl ?_ | refine WL.extract rfl rfl rfl ?_ | refine WL.addI rfl rfl (by omega) rfl ?_ | refine WL.subI rfl rfl (by omega) rfl ?_ | refine WL.indexS (tyS rfl) rfl rfl (by omega) rfl ?_ | refine WL.indexA (tyR rfl) rfl rfl (by omega) rfl ?_)
    refine W.loop2 (fun (i : Nat) (_ : Value) => [(0, .slice la2 k lc2), (1, .slice (some ⟨cb, co, none⟩) ch.length cc2), (2, .int .i64 bits), (3, ov), (4, .int .u64 (acc : Int)), (5, .int .u64 (n : Int)), (6, .slice ya2 ys.length yc2), (7, .int .i64 al), (17, .int .i64 k), (22, .pointer (some ⟨b, 0, none⟩)), (23, .pointer (some ⟨g, 0, none⟩)), (24, .int .i64 d'), (25, .int .i64 j), (27, .int .i64 p), (30, .int .i64 i)])
      (fun i y w' => i ≤ p ∧ Row w' g (intsC (S.set t ((j : Int) + 1))) 37 ∧ PW B b w' y (wrs st0 (O ++ List.replicate i (1, 1))) ∧ BStep b w8 sv w' y) (fun i _ => p - i) 0 u ⟨rfl, rfl, rfl, rfl, rfl, rfl, rfl, rfl, rfl, rfl, rfl, rfl, rfl, rfl, rfl, trivial⟩
      ⟨by omega, hr12, by rw [List.replicate_zero, List.append_nil]; exact hb12, S12⟩ ?_
    rintro i y w13 ⟨hi, hr13, hb13, S13⟩
    repeat (first | refine WL.move rfl rfl ?_ | refine WL.assign rfl rfl ?_ | refine W.seq ?_ | refine W.region ?_ | refine WL.nil ?_ | refine Post.next ?_ | refine Post.tail ?_ | refine W.cond_t rfl ?_ | refine W.cond_f rfl ?_ | refine W.block ?_ | refine W.skip ?_ | refine W.exit ?_ | refine W.ret ?_ | refine Post.block_exit ?_ | refine Post.block_other rfl ?_ | refine Post.then_exit ?_ | refine Post.then_ret ?_ | refine Post.block_ret ?_ | refine Post.block_normal ?_ | refine WL.lenS (tyS rfl) rfl rfl ?_ | refine WL.lenStr und9 rfl rfl ?_ | refine WL.fieldAddr (tyF rfl) rfl rfl ?_ | refine WL.not rfl rfl ?_ | refine WL.pick_t rfl rfl rfl ?_ | refine WL.pick_f rfl rfl rfl ?_ | refine WL.want rfl rfl ?_ | refine WL.skip rfl rfl rfl rfl ?_ | refine WL.extract rfl rfl rfl ?_ | refine WL.addI rfl rfl (by omega) rfl ?_ | refine WL.subI rfl rfl (by omega) rfl ?_ | refine WL.indexS (tyS rfl) rfl rfl (by omega) rfl ?_ | refine WL.indexA (tyR rfl) rfl rfl (by omega) rfl ?_)
    refine WL.lss rfl rfl rfl (fun hlt2 => ?_) (fun hge2 => ?_)
    · repeat (first | refine WL.move rfl rfl ?_ | refine WL.assign rfl rfl ?_ | refine W.seq ?_ | refine W.region ?_ | refine WL.nil ?_ | refine Post.next ?_ | refine Post.tail ?_ | refine W.cond_t rfl ?_ | refine W.cond_f rfl ?_ | refine W.block ?_ | refine W.skip ?_ | refine W.exit ?_ | refine W.ret ?_ | refine Post.block_exit ?_ | refine Post.block_other rfl ?_ | refine Post.then_exit ?_ | refine Post.then_ret ?_ | refine Post.block_ret ?_ | refine Post.block_normal ?_ | refine WL.lenS (tyS rfl) rfl rfl ?_ | refine WL.lenStr und9 rfl rfl ?_ | refine WL.fieldAddr (tyF rfl) rfl rfl ?_ | refine WL.not rfl rfl ?_ | refine WL.pick_t rfl rfl rfl ?_ | refine WL.pick_f rfl rfl rfl ?_ | refine WL.want rfl rfl ?_ | refine WL.skip rfl rfl rfl rfl ?_ | refine WL.extract rfl rfl rfl ?_ | refine WL.addI rfl rfl (by omega) rfl ?_ | refine WL.subI rfl rfl (by omega) rfl ?_ | refine WL.indexS (tyS rfl) rfl rfl (by omega) rfl ?_ | refine WL.indexA (tyR rfl) rfl rfl (by omega) rfl ?_)
      refine WL.call _ (fnT rfl) (args2 rfl rfl) (put_o w13 b B y st0 (O ++ List.replicate i (1, 1)) 1 hb13 hn0 hl0 (by rw [tot_app, tot_rep]; omega) (by omega)) (by rintro e w' ⟨rfl, _⟩; exact ⟨_, rfl⟩) rfl ?_
      rintro _ w14 ⟨hv, v14, hb14, hs14⟩
      cases hv
      refine ⟨trivial, ?_⟩
      have hr14 := hr13.bstep hs14 hgb (own_ne_row hb13.own hr13 (by decide))
      repeat (first | refine WL.move rfl rfl ?_ | refine WL.assign rfl rfl ?_ | refine W.seq ?_ | refine W.region ?_ | refine WL.nil ?_ | refine Post.next ?_ | refine Post.tail ?_ | refine W.cond_t rfl ?_ | refine W.cond_f rfl ?_ | refine W.block ?_ | refine W.skip ?_ | refine W.exit ?_ | refine W.ret ?_ | refine Post.block_exit ?_ | refine Post.block_other rfl ?_ | refine Post.then_exit ?_ | refine Post.then_ret ?_ | refine Post.block_ret ?_ | refine Post.block_normal ?_ | refine WL.lenS (tyS rfl) rfl rfl ?_ | refine WL.lenStr und9 rfl rfl ?_ | refine WL.fieldAddr (tyF rfl) rfl rfl ?_ | refine WL.not rfl rfl ?_ | refine WL.pick_t rfl rfl rfl ?_ | refine WL.pick_f rfl rfl rfl ?_ | refine WL.want rfl rfl ?_ | refine WL.skip rfl rfl rfl rfl ?_ | refine WL.extract rfl rfl rfl ?_ | refine WL.addI rfl rfl (by omega) rfl ?_ | refine WL.subI rfl rfl (by omega) rfl ?_ | refine WL.indexS (tyS rfl) rfl rfl (by omega) rfl ?_ | refine WL.indexA (tyR rfl) rfl rfl (by omega) rfl ?_)
      refine Post.round2 (i + 1) v14 ⟨rfl, rfl, rfl, rfl, rfl, rfl, rfl, rfl, rfl, rfl, rfl, rfl, rfl, rfl, (by first | rfl | (simp [look]; done) | (simp [look]; omega)), trivial⟩ ⟨by omega, hr14, ?_, S13.trans hs14⟩ (by omega)
      rw [List.replicate_succ', ← List.append_assoc]
      exact hb14
    · have hip : i = p := by omega
      subst hip
      have hun := unary_wrs (st0 := st0) (O := O) (p := i)
      have hn13 := hbx.n7
      have ha13 := hbx.ac
      repeat (first | refine WL.move rfl rfl ?_ | refine WL.assign rfl rfl ?_ | refine W.seq ?_ | refine W.region ?_ | refine WL.nil ?_ | refine Post.next ?_ | refine Post.tail ?_ | refine W.cond_t rfl ?_ | refine W.cond_f rfl ?_ | refine W.block ?_ | refine W.skip ?_ | refine W.exit ?_ | refine W.ret ?_ | refine Post.block_exit ?_ | refine Post.block_other rfl ?_ | refine Post.then_exit ?_ | refine Post.then_ret ?_ | refine Post.block_ret ?_ | refine Post.block_normal ?_ | refine WL.lenS (tyS rfl) rfl rfl ?_ | refine WL.lenStr und9 rfl rfl ?_ | refine WL.fieldAddr (tyF rfl) rfl rfl ?_ | refine WL.not rfl rfl ?_ | refine WL.pick_t rfl rfl rfl ?_ | refine WL.pick_f rfl rfl rfl ?_ | refine WL.want rfl rfl ?_ | refine WL.skip rfl rfl rfl rfl ?_ | refine WL.extract rfl rfl rfl ?_ | refine WL.addI rfl rfl (by omega) rfl ?_ | refine WL.subI rfl rfl (by omega) rfl ?_ | refine WL.indexS (tyS rfl) rfl rfl (by omega) rfl ?_ | refine WL.indexA (tyR rfl) rfl rfl (by omega) rfl ?_)
      refine WL.call _ (fnT rfl) (args2 rfl rfl) (put_o w13 b B y st0 (O ++ List.replicate i (1, 1)) 0 hb13 hn0 hl0 (by rw [tot_app, tot_rep]; omega) (by omega)) (by rintro e w' ⟨rfl, _⟩; exact ⟨_, rfl⟩) rfl ?_
      rintro _ w14 ⟨hv, v14, hb14, hs14⟩
      cases hv
      refine ⟨trivial, ?_⟩
      have hr14 := hr13.bstep hs14 hgb (own_ne_row hb13.own hr13 (by decide))
      rw [hun hn13 ha13 (by omega)] at hb14
      repeat (first | refine WL.move rfl rfl ?_ | refine WL.assign rfl rfl ?_ | refine W.seq ?_ | refine W.region ?_ | refine WL.nil ?_ | refine Post.next ?_ | refine Post.tail ?_ | refine W.cond_t rfl ?_ | refine W.cond_f rfl ?_ | refine W.block ?_ | refine W.skip ?_ | refine W.exit ?_ | refine W.ret ?_ | refine Post.block_exit ?_ | refine Post.block_other rfl ?_ | refine Post.then_exit ?_ | refine Post.then_ret ?_ | refine Post.block_ret ?_ | refine Post.block_normal ?_ | refine WL.lenS (tyS rfl) rfl rfl ?_ | refine WL.lenStr und9 rfl rfl ?_ | refine WL.fieldAddr (tyF rfl) rfl rfl ?_ | refine WL.not rfl rfl ?_ | refine WL.pick_t rfl rfl rfl ?_ | refine WL.pick_f rfl rfl rfl ?_ | refine WL.want rfl rfl ?_ | refine WL.skip rfl rfl rfl rfl ?_ | refine WL.extract rfl rfl rfl ?_ | refine WL.addI rfl rfl (by omega) rfl ?_ | refine WL.subI rfl rfl (by omega) rfl ?_ | refine WL.indexS (tyS rfl) rfl rfl (by omega) rfl ?_ | refine WL.indexA (tyR rfl) rfl rfl (by omega) rfl ?_)
      refine Post.round6 (j + 1) d' _ _ (O ++ [(2 ^ (i + 1) - 2, i + 1)]) v14 ⟨rfl, rfl, rfl, rfl, rfl, rfl, rfl, rfl, rfl, rfl, rfl, rfl, (by first | rfl | (simp [look]; done) | (simp [look]; omega)), trivial⟩ ⟨by omega, hstep, ?_, by rw [tot_snoc]; omega, hr14, hb14, S13.trans hs14⟩ (by omega)
      rw [List.append_assoc, List.singleton_append]
      exact hO
  have hje : j = ch.length := by omega
  subst hje
  rw [List.drop_of_length_le (Nat.le_refl _), choOps, List.append_nil] at hO
  subst hO
  clear hge hj hrx hR
  obtain ⟨S0, hS⟩ : ∃ S0 : Src, S0 = (⟨la2, gL, 0, lc2, ca2, cb, co, cc2, ya2, yb, yo, yc2, k, alpha, f, ch, ys⟩ : Src) := ⟨_, rfl⟩
  have hSf : S0.f = f := by rw [hS]
  have hSa : S0.alpha = alpha := by rw [hS]
  have hSk : S0.k = k := by rw [hS]
  have hH0 : S0.codsOps 0 = [(k, 3), (ch.length, 15)] ++ choOps (iotaL 6) ch := by rw [hS]; simp [Src.codsOps, Src.headOps]
  rw [← hH0] at hbx htO
  repeat (first | refine WL.move rfl rfl ?_ | refine WL.assign rfl rfl ?_ | refine W.seq ?_ | refine W.region ?_ | refine WL.nil ?_ | refine Post.next ?_ | refine Post.tail ?_ | refine W.cond_t rfl ?_ | refine W.cond_f rfl ?_ | refine W.block ?_ | refine W.skip ?_ | refine W.exit ?_ | refine W.ret ?_ | refine Post.block_exit ?_ | refine Post.block_other rfl ?_ | refine Post.then_exit ?_ | refine Post.then_ret ?_ | refine Post.block_ret ?_ | refine Post.block_normal ?_ | refine WL.lenS (tyS rfl) rfl rfl ?_ | refine WL.lenStr und9 rfl rfl ?_ | refine WL.fieldAddr (tyF rfl) rfl rfl ?_ | refine WL.not rfl rfl ?_ | refine WL.pick_t rfl rfl rfl ?_ | refine WL.pick_f rfl rfl rfl ?_ | refine WL.want rfl rfl ?_ | refine WL.skip rfl rfl rfl rfl ?_ | refine WL.extract rfl rfl rfl ?_ | refine WL.addI rfl rfl (by omega) rfl ?_ | refine WL.subI rfl rfl (by omega) rfl ?_ | refine WL.indexS (tyS rfl) rfl rfl (by omega) rfl ?_ | refine WL.indexA (tyR rfl) rfl rfl (by omega) rfl ?_)
  refine WL.alloc zero41 rfl ?_
  intro w12 hg12 hz12 hr12
  refine ⟨trivial, ?_⟩
  rw [cod0] at hr12
  have hb12 := hbx.up hg12
  have S12 := Sx.none hg12
  have zx : w8.heap.size ≤ wx.heap.size := Sx.size
  generalize hgkd : wx.heap.size = gk at *
  have hgkb : gk ≠ b := by omega
  repeat (first | refine WL.move rfl rfl ?_ | refine WL.assign rfl rfl ?_ | refine W.seq ?_ | refine W.region ?_ | refine WL.nil ?_ | refine Post.next ?_ | refine Post.tail ?_ | refine W.cond_t rfl ?_ | refine W.cond_f rfl ?_ | refine W.block ?_ | refine W.skip ?_ | refine W.exit ?_ | refine W.ret ?_ | refine Post.block_exit ?_ | refine Post.block_other rfl ?_ | refine Post.then_exit ?_ | refine Post.then_ret ?_ | refine Post.block_ret ?_ | refine Post.block_normal ?_ | refine WL.lenS (tyS rfl) rfl rfl ?_ | refine WL.lenStr und9 rfl rfl ?_ | refine WL.fieldAddr (tyF rfl) rfl rfl ?_ | refine WL.not rfl rfl ?_ | refine WL.pick_t rfl rfl rfl ?_ | refine WL.pick_f rfl rfl rfl ?_ | refine WL.want rfl rfl ?_ | refine WL.skip rfl rfl rfl rfl ?_ | refine WL.extract rfl rfl rfl ?_ | refine WL.addI rfl rfl (by omega) rfl ?_ | refine WL.subI rfl rfl (by omega) rfl ?_ | refine WL.indexS (tyS rfl) rfl rfl (by omega) rfl ?_ | refine WL.indexA (tyR rfl) rfl rfl (by omega) rfl ?_)
  -- the codes
  refine W.loop3 (fun (t : Nat) (_ : Nat → Nat) (_ : Value) => [(0, .slice la2 k lc2), (1, .slice ca2 ch.length cc2), (2, .int .i64 bits), (3, ov), (4, .int .u64 (acc : Int)), (5, .int .u64 (n : Int)), (6, .slice ya2 ys.length yc2), (7, .int .i64 al), (17, .int .i64 k), (22, .pointer (some ⟨b, 0, none⟩)), (31, .pointer (some ⟨gk, 0, none⟩)), (32, .int .i64 t)])
    (fun t F u wx => t ≤ k ∧ (∀ j, F j < 4294967296) ∧ (∀ t' u, t' < t → u < alpha → F (t' * 512 + u) = codeOf (f t') alpha u) ∧ tot (S0.codsOps t) ≤ 393234 + 261637 * t ∧ Row wx gk (codC 6 F) 41 ∧ PW B b wx u (wrs st0 (S0.codsOps t)) ∧ BStep b w8 sv wx u) (fun t _ _ => k - t) 0 (fun _ => 0) u ⟨rfl, rfl, rfl, rfl, rfl, rfl, rfl, rfl, rfl, rfl, rfl, rfl, trivial⟩
    ⟨by omega, fun _ => Nat.zero_lt_succ _, fun t' _ h => by omega, by omega, hr12, hb12, S12⟩ ?_
  clear hbx Sx hb12 S12 hr12 htO
  rintro t F u wx ⟨htk, hF, hFc, htO, hrx, hbx, Sx⟩
  repeat (first | refine WL.move rfl rfl ?_ | refine WL.assign rfl rfl ?_ | refine W.seq ?_ | refine W.region ?_ | refine WL.nil ?_ | refine Post.next ?_ | refine Post.tail ?_ | refine W.cond_t rfl ?_ | refine W.cond_f rfl ?_ | refine W.block ?_ | refine W.skip ?_ | refine W.exit ?_ | refine W.ret ?_ | refine Post.block_exit ?_ | refine Post.block_other rfl ?_ | refine Post.then_exit ?_ | refine Post.then_ret ?_ | refine Post.block_ret ?_ | refine Post.block_normal ?_ | refine WL.lenS (tyS rfl) rfl rfl ?_ | refine WL.lenStr und9 rfl rfl ?_ | refine WL.fieldAddr (tyF rfl) rfl rfl ?_ | refine WL.not rfl rfl ?_ | refine WL.pick_t rfl rfl rfl ?_ | refine WL.pick_f rfl rfl rfl ?_ | refine WL.want rfl rfl ?_ | refine WL.skip rfl rfl rfl rfl ?_ | refine WL.extract rfl rfl rfl ?_ | refine WL.addI rfl rfl (by omega) rfl ?_ | refine WL.subI rfl rfl (by omega) rfl ?_ | refine WL.indexS (tyS rfl) rfl rfl (by omega) rfl ?_ | refine WL.indexA (tyR rfl) rfl rfl (by omega) rfl ?_)
  refine WL.lss rfl rfl rfl (fun hlt => ?_) (fun hge => ?_)
  · have htk' : t < k := by omega
    obtain ⟨ha1, ha2⟩ := halp (by omega)
    have hal' := hal (by omega)
    subst hal'
    obtain ⟨hla', hrowL⟩ := hgL (by omega)
    subst hla'
    obtain ⟨hKl, hKk⟩ := hK' t htk'
    have hcel : ∀ {wy : World}, Up w5 wy → ∀ q, q < 512 → wy.cell? ⟨gL, 0 + (t * 512 + q), none⟩ = some (.int .u8 (f t q : Int)) := fun {wy} h q hq => by
      rw [Nat.zero_add]
      exact h.cell (hrowL.cell (lenC_at htk' hq))
    have hc0 := hcel (hU Sx) 0 (by omega)
    have hf0 := hKl 0 (by omega)
    repeat (first | refine WL.move rfl rfl ?_ | refine WL.assign rfl rfl ?_ | refine W.seq ?_ | refine W.region ?_ | refine WL.nil ?_ | refine Post.next ?_ | refine Post.tail ?_ | refine W.cond_t rfl ?_ | refine W.cond_f rfl ?_ | refine W.block ?_ | refine W.skip ?_ | refine W.exit ?_ | refine W.ret ?_ | refine Post.block_exit ?_ | refine Post.block_other rfl ?_ | refine Post.then_exit ?_ | refine Post.then_ret ?_ | refine Post.block_ret ?_ | refine Post.block_normal ?_ | refine WL.lenS (tyS rfl) rfl rfl ?_ | refine WL.lenStr und9 rfl rfl ?_ | refine WL.fieldAddr (tyF rfl) rfl rfl ?_ | refine WL.not rfl rfl ?_ | refine WL.pick_t rfl rfl rfl ?_ | refine WL.pick_f rfl rfl rfl ?_ | refine WL.want rfl rfl ?_ | refine WL.skip rfl rfl rfl rfl ?_ | refine WL.extract rfl rfl rfl ?_ | refine WL.addI rfl rfl (by omega) rfl ?_ | refine WL.subI rfl rfl (by omega) rfl ?_ | refine WL.indexS (tyS rfl) rfl rfl (by omega) rfl ?_ | refine WL.indexA (tyR rfl) rfl rfl (by omega) rfl ?_)
    refine WL.load (o' := 0 + (t * 512 + 0)) (tyP rfl) rfl (fun _ e => e) hc0 (by first | omega | (simp; done) | (simp; omega)) rfl ?_
    refine WL.conv' (kd' := .i64) (tyI rfl) (tyI rfl) rfl (i64w (by omega) (by omega)) rfl ?_
    repeat (first | refine WL.move rfl rfl ?_ | refine WL.assign rfl rfl ?_ | refine W.seq ?_ | refine W.region ?_ | refine WL.nil ?_ | refine Post.next ?_ | refine Post.tail ?_ | refine W.cond_t rfl ?_ | refine W.cond_f rfl ?_ | refine W.block ?_ | refine W.skip ?_ | refine W.exit ?_ | refine W.ret ?_ | refine Post.block_exit ?_ | refine Post.block_other rfl ?_ | refine Post.then_exit ?_ | refine Post.then_ret ?_ | refine Post.block_ret ?_ | refine Post.block_normal ?_ | refine WL.lenS (tyS rfl) rfl rfl ?_ | refine WL.lenStr und9 rfl rfl ?_ | refine WL.fieldAddr (tyF rfl) rfl rfl ?_ | refine WL.not rfl rfl ?_ | refine WL.pick_t rfl rfl rfl ?_ | refine WL.pick_f rfl rfl rfl ?_ | refine WL.want rfl rfl ?_ | refine WL.skip rfl rfl rfl rfl ?_ | refine WL.extract rfl rfl rfl ?_ | refine WL.addI rfl rfl (by omega) rfl ?_ | refine WL.subI rfl rfl (by omega) rfl ?_ | refine WL.indexS (tyS rfl) rfl rfl (by omega) rfl ?_ | refine WL.indexA (tyR rfl) rfl rfl (by omega) rfl ?_)
    refine WL.conv' (kd' := .u64) (tyI rfl) (tyI rfl) rfl (u64w (by omega) (by omega)) rfl ?_
    refine WL.call _ (fnT rfl) (args3 rfl rfl rfl) (putN_o wx b B u st0 (S0.codsOps t) (f t 0) 5 hbx hn0 hl0 (by omega) (by omega) (by omega)) (by rintro e w' ⟨rfl, _⟩; exact ⟨_, rfl⟩) rfl ?_
    rintro _ w13 ⟨hv, v13, hb13, hs13⟩
    cases hv
    refine ⟨trivial, ?_⟩
    have hr13 := hrx.bstep hs13 hgkb (own_ne_row hbx.own hrx (by decide))
    have S13 := Sx.trans hs13
    have t13 : tot (S0.codsOps t ++ [(f t 0, 5)]) = tot (S0.codsOps t) + 5 := tot_snoc _ _ _
    have hfin : S0.codsOps t ++ [(f t 0, 5)] ++ deOps (f t 0) (lrow (f t) alpha) = S0.codsOps (t + 1) := by
      rw [Src.codsOps_succ, hSf, hSa, List.append_assoc]; rfl
    have hlr : (lrow (f t) alpha).length = alpha := by simp [lrow]
    repeat (first | refine WL.move rfl rfl ?_ | refine WL.assign rfl rfl ?_ | refine W.region ?_ | refine WL.nil ?_ | refine Post.next ?_ | refine Post.tail ?_ | refine W.cond_t rfl ?_ | refine W.cond_f rfl ?_ | refine W.block ?_ | refine W.skip ?_ | refine W.exit ?_ | refine W.ret ?_ | refine Post.block_exit ?_ | refine Post.block_other rfl ?_ | refine Post.then_exit ?_ | refine Post.then_ret ?_ | refine Post.block_ret ?_ | refine Post.block_normal ?_ | refine WL.lenS (tyS rfl) rfl rfl ?_ | refine WL.lenStr und9 rfl rfl ?_ | refine WL.fieldAddr (tyF rfl) rfl rfl ?_ | refine WL.not rfl rfl ?_ | refine WL.pick_t rfl rfl rfl ?_ | refine WL.pick_f rfl rfl rfl ?_ | refine WL.want rfl rfl ?_ | refine WL.skip rfl rfl rfl rfl ?_ | refine WL.extract rfl rfl rfl ?_)
    -- the lengths
    refine W.seq_joinE (fun (z : Value) => [(0, .slice (some ⟨gL, 0, none⟩) k lc2), (1, .slice ca2 ch.length cc2), (2, .int .i64 bits), (3, ov), (4, .int .u64 (acc : Int)), (5, .int .u64 (n : Int)), (6, .slice ya2 ys.length yc2), (7, .int .i64 (alpha : Int)), (17, .int .i64 k), (22, .pointer (some ⟨b, 0, none⟩)), (31, .pointer (some ⟨gk, 0, none⟩)), (32, .int .i64 t)])
      (fun z w' => Row w' gk (codC 6 F) 41 ∧ PW B b w' z (wrs st0 (S0.codsOps (t + 1))) ∧ tot (S0.codsOps (t + 1)) ≤ 393234 + 261637 * t + 5 + 511 * alpha ∧ BStep b w8 sv w' z) ?_ ?_
    · repeat (first | refine WL.move rfl rfl ?_ | refine WL.assign rfl rfl ?_ | refine W.seq ?_ | refine W.region ?_ | refine WL.nil ?_ | refine Post.next ?_ | refine Post.tail ?_ | refine W.cond_t rfl ?_ | refine W.cond_f rfl ?_ | refine W.block ?_ | refine W.skip ?_ | refine W.exit ?_ | refine W.ret ?_ | refine Post.block_exit ?_ | refine Post.block_other rfl ?_ | refine Post.then_exit ?_ | refine Post.then_ret ?_ | refine Post.block_ret ?_ | refine Post.block_normal ?_ | refine WL.lenS (tyS rfl) rfl rfl ?_ | refine WL.lenStr und9 rfl rfl ?_ | refine WL.fieldAddr (tyF rfl) rfl rfl ?_ | refine WL.not rfl rfl ?_ | refine WL.pick_t rfl rfl rfl ?_ | refine WL.pick_f rfl rfl rfl ?_ | refine WL.want rfl rfl ?_ | refine WL.skip rfl rfl rfl rfl ?_ | refine WL.extract rfl rfl rfl ?_ | refine WL.addI rfl rfl (by omega) rfl ?_ | refine WL.subI rfl rfl (by omega) rfl ?_ | refine WL.indexS (tyS rfl) rfl rfl (by omega) rfl ?_ | refine WL.indexA (tyR rfl) rfl rfl (by omega) rfl ?_)
      refine W.loop4 (fun (j cur : Nat) (_ : List (Nat × Nat)) (_ : Value) => [(0, .slice (some ⟨gL, 0, none⟩) k lc2), (1, .slice ca2 ch.length cc2), (2, .int .i64 bits), (3, ov), (4, .int .u64 (acc : Int)), (5, .int .u64 (n : Int)), (6, .slice ya2 ys.length yc2), (7, .int .i64 (alpha : Int)), (17, .int .i64 k), (22, .pointer (some ⟨b, 0, none⟩)), (31, .pointer (some ⟨gk, 0, none⟩)), (32, .int .i64 t), (33, .int .i64 cur), (34, .int .i64 j)])
        (fun j cur O z wz => j ≤ alpha ∧ cur < 256 ∧ O ++ deOps cur ((lrow (f t) alpha).drop j) = S0.codsOps (t + 1) ∧ tot O ≤ 393234 + 261637 * t + 5 + 511 * j ∧ Row wz gk (codC 6 F) 41 ∧ PW B b wz z (wrs st0 O) ∧ BStep b w8 sv wz z) (fun j _ _ _ => alpha - j) 0 (f t 0) (S0.codsOps t ++ [(f t 0, 5)]) v13 ⟨rfl, rfl, rfl, rfl, rfl, rfl, rfl, rfl, rfl, rfl, rfl, rfl, rfl, rfl, trivial⟩
        ⟨by omega, by omega, hfin, by omega, hr13, hb13, S13⟩ ?_
      rintro j cur O z wz ⟨hj, hcur, hO, htz, hrz, hbz, Sz⟩
      repeat (first | refine WL.move rfl rfl ?_ | refine WL.assign rfl rfl ?_ | refine W.seq ?_ | refine W.region ?_ | refine WL.nil ?_ | refine Post.next ?_ | refine Post.tail ?_ | refine W.cond_t rfl ?_ | refine W.cond_f rfl ?_ | refine W.block ?_ | refine W.skip ?_ | refine W.exit ?_ | refine W.ret ?_ | refine Post.block_exit ?_ | refine Post.block_other rfl ?_ | refine Post.then_exit ?_ | refine Post.then_ret ?_ | refine Post.block_ret ?_ | refine Post.block_normal ?_ | refine WL.lenS (tyS rfl) rfl rfl ?_ | refine WL.lenStr und9 rfl rfl ?_ | refine WL.fieldAddr (tyF rfl) rfl rfl ?_ | refine WL.not rfl rfl ?_ | refine WL.pick_t rfl rfl rfl ?_ | refine WL.pick_f rfl rfl rfl ?_ | refine WL.want rfl rfl ?_ | refine WL.skip rfl rfl rfl rfl ?_ | refine WL.extract rfl rfl rfl ?_ | refine WL.addI rfl rfl (by omega) rfl ?_ | refine WL.subI rfl rfl (by omega) rfl ?_ | refine WL.indexS (tyS rfl) rfl rfl (by omega) rfl ?_ | refine WL.indexA (tyR rfl) rfl rfl (by omega) rfl ?_)
      refine WL.lss rfl rfl rfl (fun hlt2 => ?_) (fun hge2 => ?_)
      · have hj' : j < alpha := by omega
        have hcj := hcel (hU Sz) j (by omega)
        have hdrop : (lrow (f t) alpha).drop j = f t j :: (lrow (f t) alpha).drop (j + 1) := by
          rw [List.drop_eq_getElem_cons (by omega)]; simp [lrow]
        rw [hdrop, deOps] at hO
        have hfj := hKl j hj'
        generalize hld : f t j = l at *
        repeat (first | refine WL.move rfl rfl ?_ | refine WL.assign rfl rfl ?_ | refine W.seq ?_ | refine W.region ?_ | refine WL.nil ?_ | refine Post.next ?_ | refine Post.tail ?_ | refine W.cond_t rfl ?_ | refine W.cond_f rfl ?_ | refine W.block ?_ | refine W.skip ?_ | refine W.exit ?_ | refine W.ret ?_ | refine Post.block_exit ?_ | refine Post.block_other rfl ?_ | refine Post.then_exit ?_ | refine Post.then_ret ?_ | refine Post.block_ret ?_ | refine Post.block_normal ?_ | refine WL.lenS (tyS rfl) rfl rfl ?_ | refine WL.lenStr und9 rfl rfl ?_ | refine WL.fieldAddr (tyF rfl) rfl rfl ?_ | refine WL.not rfl rfl ?_ | refine WL.pick_t rfl rfl rfl ?_ | refine WL.pick_f rfl rfl rfl ?_ | refine WL.want rfl rfl ?_ | refine WL.skip rfl rfl rfl rfl ?_ | refine WL.extract rfl rfl rfl ?_ | refine WL.addI rfl rfl (by omega) rfl ?_ | refine WL.subI rfl rfl (by omega) rfl ?_ | refine WL.indexS (tyS rfl) rfl rfl (by omega) rfl ?_ | refine WL.indexA (tyR rfl) rfl rfl (by omega) rfl ?_)
        refine WL.load (o' := 0 + (t * 512 + j)) (tyP rfl) rfl (fun _ e => e) hcj (by first | omega | (simp; done) | (simp; omega)) rfl ?_
        refine WL.conv' (kd' := .i64) (tyI rfl) (tyI rfl) rfl (i64w (by omega) (by omega)) rfl ?_
        repeat (first | refine WL.move rfl rfl ?_ | refine WL.assign rfl rfl ?_ | refine W.region ?_ | refine WL.nil ?_ | refine Post.next ?_ | refine Post.tail ?_ | refine W.cond_t rfl ?_ | refine W.cond_f rfl ?_ | refine W.block ?_ | refine W.skip ?_ | refine W.exit ?_ | refine W.ret ?_ | refine Post.block_exit ?_ | refine Post.block_other rfl ?_ | refine Post.then_exit ?_ | refine Post.then_ret ?_ | refine Post.block_ret ?_ | refine Post.block_normal ?_ | refine WL.lenS (tyS rfl) rfl rfl ?_ | refine WL.lenStr und9 rfl rfl ?_ | refine WL.fieldAddr (tyF rfl) rfl rfl ?_ | refine WL.not rfl rfl ?_ | refine WL.pick_t rfl rfl rfl ?_ | refine WL.pick_f rfl rfl rfl ?_ | refine WL.want rfl rfl ?_ | refine WL.skip rfl rfl rfl rfl ?_ | refine WL.extract rfl rfl rfl ?_)
        -- one up
        refine W.seq_joinE (fun (q : Nat × Value) => [(0, .slice (some ⟨gL, 0, none⟩) k lc2), (1, .slice ca2 ch.length cc2), (2, .int .i64 bits), (3, ov), (4, .int .u64 (acc : Int)), (5, .int .u64 (n : Int)), (6, .slice ya2 ys.length yc2), (7, .int .i64 (alpha : Int)), (17, .int .i64 k), (22, .pointer (some ⟨b, 0, none⟩)), (31, .pointer (some ⟨gk, 0, none⟩)), (32, .int .i64 t), (33, .int .i64 q.1), (34, .int .i64 j), (35, .int .i64 l)])
          (fun q w' => ∃ O2, l ≤ q.1 ∧ q.1 < 256 ∧ O2 ++ (List.replicate (q.1 - l) (3, 2) ++ (0, 1) :: deOps l ((lrow (f t) alpha).drop (j + 1))) = S0.codsOps (t + 1) ∧ tot O2 + 2 * (q.1 - l) ≤ 393234 + 261637 * t + 5 + 511 * j + 510 ∧ Row w' gk (codC 6 F) 41 ∧ PW B b w' q.2 (wrs st0 O2) ∧ BStep b w8 sv w' q.2) ?_ ?_
        · repeat (first | refine WL.move rfl rfl ?_ | refine WL.assign rfl rfl ?_ | refine W.seq ?_ | refine W.region ?_ | refine WL.nil ?_ | refine Post.next ?_ | refine Post.tail ?_ | refine W.cond_t rfl ?_ | refine W.cond_f rfl ?_ | refine W.block ?_ | refine W.skip ?_ | refine W.exit ?_ | refine W.ret ?_ | refine Post.block_exit ?_ | refine Post.block_other rfl ?_ | refine Post.then_exit ?_ | refine Post.then_ret ?_ | refine Post.block_ret ?_ | refine Post.block_normal ?_ | refine WL.lenS (tyS rfl) rfl rfl ?_ | refine WL.lenStr und9 rfl rfl ?_ | refine WL.fieldAddr (tyF rfl) rfl rfl ?_ | refine WL.not rfl rfl ?_ | refine WL.pick_t rfl rfl rfl ?_ | refine WL.pick_f rfl rfl rfl ?_ | refine WL.want rfl rfl ?_ | refine WL.skip rfl rfl rfl rfl ?_ | refine WL.extract rfl rfl rfl ?_ | refine WL.addI rfl rfl (by omega) rfl ?_ | refine WL.subI rfl rfl (by omega) rfl ?_ | refine WL.indexS (tyS rfl) rfl rfl (by omega) rfl ?_ | refine WL.indexA (tyR rfl) rfl rfl (by omega) rfl ?_)
          refine W.loop3 (fun (c : Nat) (_ : List (Nat × Nat)) (_ : Value) => [(0, .slice (some ⟨gL, 0, none⟩) k lc2), (1, .slice ca2 ch.length cc2), (2, .int .i64 bits), (3, ov), (4, .int .u64 (acc : Int)), (5, .int .u64 (n : Int)), (6, .slice ya2 ys.length yc2), (7, .int .i64 (alpha : Int)), (17, .int .i64 k), (22, .pointer (some ⟨b, 0, none⟩)), (31, .pointer (some ⟨gk, 0, none⟩)), (32, .int .i64 t), (33, .int .i64 c), (34, .int .i64 j), (35, .int .i64 l)])
            (fun c O2 y w' => c < 256 ∧ O2 ++ (List.replicate (l - c) (2, 2) ++ (List.replicate (c - l) (3, 2) ++ (0, 1) :: deOps l ((lrow (f t) alpha).drop (j + 1)))) = S0.codsOps (t + 1) ∧ tot O2 + 2 * (l - c) + 2 * (c - l) ≤ 393234 + 261637 * t + 5 + 511 * j + 510 ∧ Row w' gk (codC 6 F) 41 ∧ PW B b w' y (wrs st0 O2) ∧ BStep b w8 sv w' y) (fun c _ _ => l - c) cur O z ⟨rfl, rfl, rfl, rfl, rfl, rfl, rfl, rfl, rfl, rfl, rfl, rfl, rfl, rfl, rfl, trivial⟩
            ⟨hcur, hO, by omega, hrz, hbz, Sz⟩ ?_
          rintro c O2 y w14 ⟨hc, hO2, ht14, hr14, hb14, S14⟩
          repeat (first | refine WL.move rfl rfl ?_ | refine WL.assign rfl rfl ?_ | refine W.seq ?_ | refine W.region ?_ | refine WL.nil ?_ | refine Post.next ?_ | refine Post.tail ?_ | refine W.cond_t rfl ?_ | refine W.cond_f rfl ?_ | refine W.block ?_ | refine W.skip ?_ | refine W.exit ?_ | refine W.ret ?_ | refine Post.block_exit ?_ | refine Post.block_other rfl ?_ | refine Post.then_exit ?_ | refine Post.then_ret ?_ | refine Post.block_ret ?_ | refine Post.block_normal ?_ | refine WL.lenS (tyS rfl) rfl rfl ?_ | refine WL.lenStr und9 rfl rfl ?_ | refine WL.fieldAddr (tyF rfl) rfl rfl ?_ | refine WL.not rfl rfl ?_ | refine WL.pick_t rfl rfl rfl ?_ | refine WL.pick_f rfl rfl rfl ?_ | refine WL.want rfl rfl ?_ | refine WL.skip rfl rfl rfl rfl ?_ | refine WL.extract rfl rfl rfl ?_ | refine WL.addI rfl rfl (by omega) rfl ?_ | refine WL.subI rfl rfl (by omega) rfl ?_ | refine WL.indexS (tyS rfl) rfl rfl (by omega) rfl ?_ | refine WL.indexA (tyR rfl) rfl rfl (by omega) rfl ?_)
          refine WL.lss rfl rfl rfl (fun hlt3 => ?_) (fun hge3 => ?_)
          · have er : l - c = (l - (c + 1)) + 1 := by omega
            have ec : c - l = c + 1 - l := by omega
            rw [er, List.replicate_succ, ec] at hO2
            repeat (first | refine WL.move rfl rfl ?_ | refine WL.assign rfl rfl ?_ | refine W.seq ?_ | refine W.region ?_ | refine WL.nil ?_ | refine Post.next ?_ | refine Post.tail ?_ | refine W.cond_t rfl ?_ | refine W.cond_f rfl ?_ | refine W.block ?_ | refine W.skip ?_ | refine W.exit ?_ | refine W.ret ?_ | refine Post.block_exit ?_ | refine Post.block_other rfl ?_ | refine Post.then_exit ?_ | refine Post.then_ret ?_ | refine Post.block_ret ?_ | refine Post.block_normal ?_ | refine WL.lenS (tyS rfl) rfl rfl ?_ | refine WL.lenStr und9 rfl rfl ?_ | refine WL.fieldAddr (tyF rfl) rfl rfl ?_ | refine WL.not rfl rfl ?_ | refine WL.pick_t rfl rfl rfl ?_ | refine WL.pick_f rfl rfl rfl ?_ | refine WL.want rfl rfl ?_ | refine WL.skip rfl rfl rfl rfl ?_ | refine WL.extract rfl rfl rfl ?_ | refine WL.addI rfl rfl (by omega) rfl ?_ | refine WL.subI rfl rfl (by omega) rfl ?_ | refine WL.indexS (tyS rfl) rfl rfl (by omega) rfl ?_ | refine WL.indexA (tyR rfl) rfl rfl (by omega) rfl ?_)
            refine WL.call _ (fnT rfl) (args2 rfl rfl) (put_o w14 b B y st0 (O2) 1 hb14 hn0 hl0 (by omega) (by omega)) (by rintro e w' ⟨rfl, _⟩; exact ⟨_, rfl⟩) rfl ?_
            rintro _ w15 ⟨hv, v15, hb15, hs15⟩
            cases hv
            refine ⟨trivial, ?_⟩
            have hr15 := hr14.bstep hs15 hgkb (own_ne_row hb14.own hr14 (by decide))
            repeat (first | refine WL.move rfl rfl ?_ | refine WL.assign rfl rfl ?_ | refine W.seq ?_ | refine W.region ?_ | refine WL.nil ?_ | refine Post.next ?_ | refine Post.tail ?_ | refine W.cond_t rfl ?_ | refine W.cond_f rfl ?_ | refine W.block ?_ | refine W.skip ?_ | refine W.exit ?_ | refine W.ret ?_ | refine Post.block_exit ?_ | refine Post.block_other rfl ?_ | refine Post.then_exit ?_ | refine Post.then_ret ?_ | refine Post.block_ret ?_ | refine Post.block_normal ?_ | refine WL.lenS (tyS rfl) rfl rfl ?_ | refine WL.lenStr und9 rfl rfl ?_ | refine WL.fieldAddr (tyF rfl) rfl rfl ?_ | refine WL.not rfl rfl ?_ | refine WL.pick_t rfl rfl rfl ?_ | refine WL.pick_f rfl rfl rfl ?_ | refine WL.want rfl rfl ?_ | refine WL.skip rfl rfl rfl rfl ?_ | refine WL.extract rfl rfl rfl ?_ | refine WL.addI rfl rfl (by omega) rfl ?_ | refine WL.subI rfl rfl (by omega) rfl ?_ | refine WL.indexS (tyS rfl) rfl rfl (by omega) rfl ?_ | refine WL.indexA (tyR rfl) rfl rfl (by omega) rfl ?_)
            refine WL.call _ (fnT rfl) (args2 rfl rfl) (put_o w15 b B v15 st0 (O2 ++ [(1, 1)]) 0 hb15 hn0 hl0 (by rw [tot_snoc]; omega) (by omega)) (by rintro e w' ⟨rfl, _⟩; exact ⟨_, rfl⟩) rfl ?_
            rintro _ w16 ⟨hv, v16, hb16, hs16⟩
            cases hv
            refine ⟨trivial, ?_⟩
            have hr16 := hr15.bstep hs16 hgkb (own_ne_row hb15.own hr15 (by decide))
            rw [two_wrs 0 (by omega) hb14.n7] at hb16
            repeat (first | refine WL.move rfl rfl ?_ | refine WL.assign rfl rfl ?_ | refine W.seq ?_ | refine W.region ?_ | refine WL.nil ?_ | refine Post.next ?_ | refine Post.tail ?_ | refine W.cond_t rfl ?_ | refine W.cond_f rfl ?_ | refine W.block ?_ | refine W.skip ?_ | refine W.exit ?_ | refine W.ret ?_ | refine Post.block_exit ?_ | refine Post.block_other rfl ?_ | refine Post.then_exit ?_ | refine Post.then_ret ?_ | refine Post.block_ret ?_ | refine Post.block_normal ?_ | refine WL.lenS (tyS rfl) rfl rfl ?_ | refine WL.lenStr und9 rfl rfl ?_ | refine WL.fieldAddr (tyF rfl) rfl rfl ?_ | refine WL.not rfl rfl ?_ | refine WL.pick_t rfl rfl rfl ?_ | refine WL.pick_f rfl rfl rfl ?_ | refine WL.want rfl rfl ?_ | refine WL.skip rfl rfl rfl rfl ?_ | refine WL.extract rfl rfl rfl ?_ | refine WL.addI rfl rfl (by omega) rfl ?_ | refine WL.subI rfl rfl (by omega) rfl ?_ | refine WL.indexS (tyS rfl) rfl rfl (by omega) rfl ?_ | refine WL.indexA (tyR rfl) rfl rfl (by omega) rfl ?_)
            refine Post.round3 (c + 1) (O2 ++ [(2, 2)]) v16 ⟨rfl, rfl, rfl, rfl, rfl, rfl, rfl, rfl, rfl, rfl, rfl, rfl, (by first | rfl | (simp [look]; done) | (simp [look]; omega)), rfl, rfl, trivial⟩ ⟨by omega, ?_, by rw [tot_snoc]; omega, hr16, hb16, (S14.trans hs15).trans hs16⟩ (by omega)
            rw [List.append_assoc, List.singleton_append]
            exact hO2
          · have er : l - c = 0 := by omega
            rw [er, List.replicate_zero, List.nil_append] at hO2
            repeat (first | refine WL.move rfl rfl ?_ | refine WL.assign rfl rfl ?_ | refine W.seq ?_ | refine W.region ?_ | refine WL.nil ?_ | refine Post.next ?_ | refine Post.tail ?_ | refine W.cond_t rfl ?_ | refine W.cond_f rfl ?_ | refine W.block ?_ | refine W.skip ?_ | refine W.exit ?_ | refine W.ret ?_ | refine Post.block_exit ?_ | refine Post.block_other rfl ?_ | refine Post.then_exit ?_ | refine Post.then_ret ?_ | refine Post.block_ret ?_ | refine Post.block_normal ?_ | refine WL.lenS (tyS rfl) rfl rfl ?_ | refine WL.lenStr und9 rfl rfl ?_ | refine WL.fieldAddr (tyF rfl) rfl rfl ?_ | refine WL.not rfl rfl ?_ | refine WL.pick_t rfl rfl rfl ?_ | refine WL.pick_f rfl rfl rfl ?_ | refine WL.want rfl rfl ?_ | refine WL.skip rfl rfl rfl rfl ?_ | refine WL.extract rfl rfl rfl ?_ | refine WL.addI rfl rfl (by omega) rfl ?_ | refine WL.subI rfl rfl (by omega) rfl ?_ | refine WL.indexS (tyS rfl) rfl rfl (by omega) rfl ?_ | refine WL.indexA (tyR rfl) rfl rfl (by omega) rfl ?_)
            exact Post.joinE (c, y) ⟨rfl, rfl, rfl, rfl, rfl, rfl, rfl, rfl, rfl, rfl, rfl, rfl, rfl, rfl, rfl, trivial⟩ ⟨O2, by simp only; omega, hc, hO2, by simp only; omega, hr14, hb14, S14⟩
        rintro ⟨c, y⟩ w14 ⟨O2, hc0', hc, hO2, ht14, hr14, hb14, S14⟩
        simp only at hc0' hc hO2 ht14 hb14 S14
        repeat (first | refine WL.move rfl rfl ?_ | refine WL.assign rfl rfl ?_ | refine W.region ?_ | refine WL.nil ?_ | refine Post.next ?_ | refine Post.tail ?_ | refine W.cond_t rfl ?_ | refine W.cond_f rfl ?_ | refine W.block ?_ | refine W.skip ?_ | refine W.exit ?_ | refine W.ret ?_ | refine Post.block_exit ?_ | refine Post.block_other rfl ?_ | refine Post.then_exit ?_ | refine Post.then_ret ?_ | refine Post.block_ret ?_ | refine Post.block_normal ?_ | refine WL.lenS (tyS rfl) rfl rfl ?_ | refine WL.lenStr und9 rfl rfl ?_ | refine WL.fieldAddr (tyF rfl) rfl rfl ?_ | refine WL.not rfl rfl ?_ | refine WL.pick_t rfl rfl rfl ?_ | refine WL.pick_f rfl rfl rfl ?_ | refine WL.want rfl rfl ?_ | refine WL.skip rfl rfl rfl rfl ?_ | refine WL.extract rfl rfl rfl ?_)
        -- one down
        refine W.seq_joinE (fun (q : Value) => [(0, .slice (some ⟨gL, 0, none⟩) k lc2), (1, .slice ca2 ch.length cc2), (2, .int .i64 bits), (3, ov), (4, .int .u64 (acc : Int)), (5, .int .u64 (n : Int)), (6, .slice ya2 ys.length yc2), (7, .int .i64 (alpha : Int)), (17, .int .i64 k), (22, .pointer (some ⟨b, 0, none⟩)), (31, .pointer (some ⟨gk, 0, none⟩)), (32, .int .i64 t), (33, .int .i64 l), (34, .int .i64 j), (35, .int .i64 l)])
          (fun q w' => ∃ O2, O2 ++ (0, 1) :: deOps l ((lrow (f t) alpha).drop (j + 1)) = S0.codsOps (t + 1) ∧ tot O2 ≤ 393234 + 261637 * t + 5 + 511 * j + 510 ∧ Row w' gk (codC 6 F) 41 ∧ PW B b w' q (wrs st0 O2) ∧ BStep b w8 sv w' q) ?_ ?_
        · repeat (first | refine WL.move rfl rfl ?_ | refine WL.assign rfl rfl ?_ | refine W.seq ?_ | refine W.region ?_ | refine WL.nil ?_ | refine Post.next ?_ | refine Post.tail ?_ | refine W.cond_t rfl ?_ | refine W.cond_f rfl ?_ | refine W.block ?_ | refine W.skip ?_ | refine W.exit ?_ | refine W.ret ?_ | refine Post.block_exit ?_ | refine Post.block_other rfl ?_ | refine Post.then_exit ?_ | refine Post.then_ret ?_ | refine Post.block_ret ?_ | refine Post.block_normal ?_ | refine WL.lenS (tyS rfl) rfl rfl ?_ | refine WL.lenStr und9 rfl rfl ?_ | refine WL.fieldAddr (tyF rfl) rfl rfl ?_ | refine WL.not rfl rfl ?_ | refine WL.pick_t rfl rfl rfl ?_ | refine WL.pick_f rfl rfl rfl ?_ | refine WL.want rfl rfl ?_ | refine WL.skip rfl rfl rfl rfl ?_ | refine WL.extract rfl rfl rfl ?_ | refine WL.addI rfl rfl (by omega) rfl ?_ | refine WL.subI rfl rfl (by omega) rfl ?_ | refine WL.indexS (tyS rfl) rfl rfl (by omega) rfl ?_ | refine WL.indexA (tyR rfl) rfl rfl (by omega) rfl ?_)
          refine W.loop3 (fun (c : Nat) (_ : List (Nat × Nat)) (_ : Value) => [(0, .slice (some ⟨gL, 0, none⟩) k lc2), (1, .slice ca2 ch.length cc2), (2, .int .i64 bits), (3, ov), (4, .int .u64 (acc : Int)), (5, .int .u64 (n : Int)), (6, .slice ya2 ys.length yc2), (7, .int .i64 (alpha : Int)), (17, .int .i64 k), (22, .pointer (some ⟨b, 0, none⟩)), (31, .pointer (some ⟨gk, 0, none⟩)), (32, .int .i64 t), (33, .int .i64 c), (34, .int .i64 j), (35, .int .i64 l)])
            (fun c O2 y w' => l ≤ c ∧ c < 256 ∧ O2 ++ (List.replicate (c - l) (3, 2) ++ (0, 1) :: deOps l ((lrow (f t) alpha).drop (j + 1))) = S0.codsOps (t + 1) ∧ tot O2 + 2 * (c - l) ≤ 393234 + 261637 * t + 5 + 511 * j + 510 ∧ Row w' gk (codC 6 F) 41 ∧ PW B b w' y (wrs st0 O2) ∧ BStep b w8 sv w' y) (fun c _ _ => c - l) c O2 y ⟨rfl, rfl, rfl, rfl, rfl, rfl, rfl, rfl, rfl, rfl, rfl, rfl, rfl, rfl, rfl, trivial⟩
            ⟨hc0', hc, hO2, ht14, hr14, hb14, S14⟩ ?_
          clear hr14 hb14 S14 hO2 ht14 hc0' hc
          rintro c O2 y w14 ⟨hc0', hc, hO2, ht14, hr14, hb14, S14⟩
          repeat (first | refine WL.move rfl rfl ?_ | refine WL.assign rfl rfl ?_ | refine W.seq ?_ | refine W.region ?_ | refine WL.nil ?_ | refine Post.next ?_ | refine Post.tail ?_ | refine W.cond_t rfl ?_ | refine W.cond_f rfl ?_ | refine W.block ?_ | refine W.skip ?_ | refine W.exit ?_ | refine W.ret ?_ | refine Post.block_exit ?_ | refine Post.block_other rfl ?_ | refine Post.then_exit ?_ | refine Post.then_ret ?_ | refine Post.block_ret ?_ | refine Post.block_normal ?_ | refine WL.lenS (tyS rfl) rfl rfl ?_ | refine WL.lenStr und9 rfl rfl ?_ | refine WL.fieldAddr (tyF rfl) rfl rfl ?_ | refine WL.not rfl rfl ?_ | refine WL.pick_t rfl rfl rfl ?_ | refine WL.pick_f rfl rfl rfl ?_ | refine WL.want rfl rfl ?_ | refine WL.skip rfl rfl rfl rfl ?_ | refine WL.extract rfl rfl rfl ?_ | refine WL.addI rfl rfl (by omega) rfl ?_ | refine WL.subI rfl rfl (by omega) rfl ?_ | refine WL.indexS (tyS rfl) rfl rfl (by omega) rfl ?_ | refine WL.indexA (tyR rfl) rfl rfl (by omega) rfl ?_)
          refine WL.gtr rfl rfl rfl (fun hlt3 => ?_) (fun hge3 => ?_)
          · have er : c - l = (c - 1 - l) + 1 := by omega
            rw [er, List.replicate_succ] at hO2
            repeat (first | refine WL.move rfl rfl ?_ | refine WL.assign rfl rfl ?_ | refine W.seq ?_ | refine W.region ?_ | refine WL.nil ?_ | refine Post.next ?_ | refine Post.tail ?_ | refine W.cond_t rfl ?_ | refine W.cond_f rfl ?_ | refine W.block ?_ | refine W.skip ?_ | refine W.exit ?_ | refine W.ret ?_ | refine Post.block_exit ?_ | refine Post.block_other rfl ?_ | refine Post.then_exit ?_ | refine Post.then_ret ?_ | refine Post.block_ret ?_ | refine Post.block_normal ?_ | refine WL.lenS (tyS rfl) rfl rfl ?_ | refine WL.lenStr und9 rfl rfl ?_ | refine WL.fieldAddr (tyF rfl) rfl rfl ?_ | refine WL.not rfl rfl ?_ | refine WL.pick_t rfl rfl rfl ?_ | refine WL.pick_f rfl rfl rfl ?_ | refine WL.want rfl rfl ?_ | refine WL.skip rfl rfl rfl rfl ?_ | refine WL.extract rfl rfl rfl ?_ | refine WL.addI rfl rfl (by omega) rfl ?_ | refine WL.subI rfl rfl (by omega) rfl ?_ | refine WL.indexS (tyS rfl) rfl rfl (by omega) rfl ?_ | refine WL.indexA (tyR rfl) rfl rfl (by omega) rfl ?_)
            refine WL.call _ (fnT rfl) (args2 rfl rfl) (put_o w14 b B y st0 (O2) 1 hb14 hn0 hl0 (by omega) (by omega)) (by rintro e w' ⟨rfl, _⟩; exact ⟨_, rfl⟩) rfl ?_
            rintro _ w15 ⟨hv, v15, hb15, hs15⟩
            cases hv
            refine ⟨trivial, ?_⟩
            have hr15 := hr14.bstep hs15 hgkb (own_ne_row hb14.own hr14 (by decide))
            repeat (first | refine WL.move rfl rfl ?_ | refine WL.assign rfl rfl ?_ | refine W.seq ?_ | refine W.region ?_ | refine WL.nil ?_ | refine Post.next ?_ | refine Post.tail ?_ | refine W.cond_t rfl ?_ | refine W.cond_f rfl ?_ | refine W.block ?_ | refine W.skip ?_ | refine W.exit ?_ | refine W.ret ?_ | refine Post.block_exit ?_ | refine Post.block_other rfl ?_ | refine Post.then_exit ?_ | refine Post.then_ret ?_ | refine Post.block_ret ?_ | refine Post.block_normal ?_ | refine WL.lenS (tyS rfl) rfl rfl ?_ | refine WL.lenStr und9 rfl rfl ?_ | refine WL.fieldAddr (tyF rfl) rfl rfl ?_ | refine WL.not rfl rfl ?_ | refine WL.pick_t rfl rfl rfl ?_ | refine WL.pick_f rfl rfl rfl ?_ | refine WL.want rfl rfl ?_ | refine WL.skip rfl rfl rfl rfl ?_ | refine WL.extract rfl rfl rfl ?_ | refine WL.addI rfl rfl (by omega) rfl ?_ | refine WL.subI rfl rfl (by omega) rfl ?_ | refine WL.indexS (tyS rfl) rfl rfl (by omega) rfl ?_ | refine WL.indexA (tyR rfl) rfl rfl (by omega) rfl ?_)
            refine WL.call _ (fnT rfl) (args2 rfl rfl) (put_o w15 b B v15 st0 (O2 ++ [(1, 1)]) 1 hb15 hn0 hl0 (by rw [tot_snoc]; omega) (by omega)) (by rintro e w' ⟨rfl, _⟩; exact ⟨_, rfl⟩) rfl ?_
            rintro _ w16 ⟨hv, v16, hb16, hs16⟩
            cases hv
            refine ⟨trivial, ?_⟩
            have hr16 := hr15.bstep hs16 hgkb (own_ne_row hb15.own hr15 (by decide))
            rw [two_wrs 1 (by omega) hb14.n7] at hb16
            repeat (first | refine WL.move rfl rfl ?_ | refine WL.assign rfl rfl ?_ | refine W.seq ?_ | refine W.region ?_ | refine WL.nil ?_ | refine Post.next ?_ | refine Post.tail ?_ | refine W.cond_t rfl ?_ | refine W.cond_f rfl ?_ | refine W.block ?_ | refine W.skip ?_ | refine W.exit ?_ | refine W.ret ?_ | refine Post.block_exit ?_ | refine Post.block_other rfl ?_ | refine Post.then_exit ?_ | refine Post.then_ret ?_ | refine Post.block_ret ?_ | refine Post.block_normal ?_ | refine WL.lenS (tyS rfl) rfl rfl ?_ | refine WL.lenStr und9 rfl rfl ?_ | refine WL.fieldAddr (tyF rfl) rfl rfl ?_ | refine WL.not rfl rfl ?_ | refine WL.pick_t rfl rfl rfl ?_ | refine WL.pick_f rfl rfl rfl ?_ | refine WL.want rfl rfl ?_ | refine WL.skip rfl rfl rfl rfl ?_ | refine WL.extract rfl rfl rfl ?_ | refine WL.addI rfl rfl (by omega) rfl ?_ | refine WL.subI rfl rfl (by omega) rfl ?_ | refine WL.indexS (tyS rfl) rfl rfl (by omega) rfl ?_ | refine WL.indexA (tyR rfl) rfl rfl (by omega) rfl ?_)
            refine Post.round3 (c - 1) (O2 ++ [(3, 2)]) v16 ⟨rfl, rfl, rfl, rfl, rfl, rfl, rfl, rfl, rfl, rfl, rfl, rfl, (by first | rfl | (simp [look]; done) | (simp [look]; omega)), rfl, rfl, trivial⟩ ⟨by omega, by omega, ?_, by rw [tot_snoc]; omega, hr16, hb16, (S14.trans hs15).trans hs16⟩ (by omega)
            rw [List.append_assoc, List.singleton_append]
            exact hO2
          · have er : c - l = 0 := by omega
            have ecl : c = l := by omega
            subst ecl
            rw [er, List.replicate_zero, List.nil_append] at hO2
            repeat (first | refine WL.move rfl rfl ?_ | refine WL.assign rfl rfl ?_ | refine W.seq ?_ | refine W.region ?_ | refine WL.nil ?_ | refine Post.next ?_ | refine Post.tail ?_ | refine W.cond_t rfl ?_ | refine W.cond_f rfl ?_ | refine W.block ?_ | refine W.skip ?_ | refine W.exit ?_ | refine W.ret ?_ | refine Post.block_exit ?_ | refine Post.block_other rfl ?_ | refine Post.then_exit ?_ | refine Post.then_ret ?_ | refine Post.block_ret ?_ | refine Post.block_normal ?_ | refine WL.lenS (tyS rfl) rfl rfl ?_ | refine WL.lenStr und9 rfl rfl ?_ | refine WL.fieldAddr (tyF rfl) rfl rfl ?_ | refine WL.not rfl rfl ?_ | refine WL.pick_t rfl rfl rfl ?_ | refine WL.pick_f rfl rfl rfl ?_ | refine WL.want rfl rfl ?_ | refine WL.skip rfl rfl rfl rfl ?_ | refine WL.extract rfl rfl rfl ?_ | refine WL.addI rfl rfl (by omega) rfl ?_ | refine WL.subI rfl rfl (by omega) rfl ?_ | refine WL.indexS (tyS rfl) rfl rfl (by omega) rfl ?_ | refine WL.indexA (tyR rfl) rfl rfl (by omega) rfl ?_)
            exact Post.joinE y ⟨rfl, rfl, rfl, rfl, rfl, rfl, rfl, rfl, rfl, rfl, rfl, rfl, rfl, rfl, rfl, trivial⟩ ⟨O2, hO2, by omega, hr14, hb14, S14⟩
        clear hr14 hb14 S14 hO2 ht14 hc0' hc
        rintro y w14 ⟨O2, hO2, ht14, hr14, hb14, S14⟩
        repeat (first | refine WL.move rfl rfl ?_ | refine WL.assign rfl rfl ?_ | refine W.seq ?_ | refine W.region ?_ | refine WL.nil ?_ | refine Post.next ?_ | refine Post.tail ?_ | refine W.cond_t rfl ?_ | refine W.cond_f rfl ?_ | refine W.block ?_ | refine W.skip ?_ | refine W.exit ?_ | refine W.ret ?_ | refine Post.block_exit ?_ | refine Post.block_other rfl ?_ | refine Post.then_exit ?_ | refine Post.then_ret ?_ | refine Post.block_ret ?_ | refine Post.block_normal ?_ | refine WL.lenS (tyS rfl) rfl rfl ?_ | refine WL.lenStr und9 rfl rfl ?_ | refine WL.fieldAddr (tyF rfl) rfl rfl ?_ | refine WL.not rfl rfl ?_ | refine WL.pick_t rfl rfl rfl ?_ | refine WL.pick_f rfl rfl rfl ?_ | refine WL.want rfl rfl ?_ | refine WL.skip rfl rfl rfl rfl ?_ | refine WL.extract rfl rfl rfl ?_ | refine WL.addI rfl rfl (by omega) rfl ?_ | refine WL.subI rfl rfl (by omega) rfl ?_ | refine WL.indexS (tyS rfl) rfl rfl (by omega) rfl ?_ | refine WL.indexA (tyR rfl) rfl rfl (by omega) rfl ?_)
        refine WL.call _ (fnT rfl) (args2 rfl rfl) (put_o w14 b B y st0 (O2) 0 hb14 hn0 hl0 (by omega) (by omega)) (by rintro e w' ⟨rfl, _⟩; exact ⟨_, rfl⟩) rfl ?_
        rintro _ w15 ⟨hv, v15, hb15, hs15⟩
        cases hv
        refine ⟨trivial, ?_⟩
        have hr15 := hr14.bstep hs15 hgkb (own_ne_row hb14.own hr14 (by decide))
        repeat (first | refine WL.move rfl rfl ?_ | refine WL.assign rfl rfl ?_ | refine W.seq ?_ | refine W.region ?_ | refine WL.nil ?_ | refine Post.next ?_ | refine Post.tail ?_ | refine W.cond_t rfl ?_ | refine W.cond_f rfl ?_ | refine W.block ?_ | refine W.skip ?_ | refine W.exit ?_ | refine W.ret ?_ | refine Post.block_exit ?_ | refine Post.block_other rfl ?_ | refine Post.then_exit ?_ | refine Post.then_ret ?_ | refine Post.block_ret ?_ | refine Post.block_normal ?_ | refine WL.lenS (tyS rfl) rfl rfl ?_ | refine WL.lenStr und9 rfl rfl ?_ | refine WL.fieldAddr (tyF rfl) rfl rfl ?_ | refine WL.not rfl rfl ?_ | refine WL.pick_t rfl rfl rfl ?_ | refine WL.pick_f rfl rfl rfl ?_ | refine WL.want rfl rfl ?_ | refine WL.skip rfl rfl rfl rfl ?_ | refine WL.extract rfl rfl rfl ?_ | refine WL.addI rfl rfl (by omega) rfl ?_ | refine WL.subI rfl rfl (by omega) rfl ?_ | refine WL.indexS (tyS rfl) rfl rfl (by omega) rfl ?_ | refine WL.indexA (tyR rfl) rfl rfl (by omega) rfl ?_)
        refine Post.round4 (j + 1) l (O2 ++ [(0, 1)]) v15 ⟨rfl, rfl, rfl, rfl, rfl, rfl, rfl, rfl, rfl, rfl, rfl, rfl, rfl, (by first | rfl | (simp [look]; done) | (simp [look]; omega)), trivial⟩ ⟨by omega, by omega, ?_, by rw [tot_snoc]; omega, hr15, hb15, S14.trans hs15⟩ (by omega)
        rw [List.append_assoc, List.singleton_append]
        exact hO2
      · have hja : j = alpha := by omega
        subst hja
        rw [List.drop_of_length_le (by omega), deOps, List.append_nil] at hO
        subst hO
        repeat (first | refine WL.move rfl rfl ?_ | refine WL.assign rfl rfl ?_ | refine W.seq ?_ | refine W.region ?_ | refine WL.nil ?_ | refine Post.next ?_ | refine Post.tail ?_ | refine W.cond_t rfl ?_ | refine W.cond_f rfl ?_ | refine W.block ?_ | refine W.skip ?_ | refine W.exit ?_ | refine W.ret ?_ | refine Post.block_exit ?_ | refine Post.block_other rfl ?_ | refine Post.then_exit ?_ | refine Post.then_ret ?_ | refine Post.block_ret ?_ | refine Post.block_normal ?_ | refine WL.lenS (tyS rfl) rfl rfl ?_ | refine WL.lenStr und9 rfl rfl ?_ | refine WL.fieldAddr (tyF rfl) rfl rfl ?_ | refine WL.not rfl rfl ?_ | refine WL.pick_t rfl rfl rfl ?_ | refine WL.pick_f rfl rfl rfl ?_ | refine WL.want rfl rfl ?_ | refine WL.skip rfl rfl rfl rfl ?_ | refine WL.extract rfl rfl rfl ?_ | refine WL.addI rfl rfl (by omega) rfl ?_ | refine WL.subI rfl rfl (by omega) rfl ?_ | refine WL.indexS (tyS rfl) rfl rfl (by omega) rfl ?_ | refine WL.indexA (tyR rfl) rfl rfl (by omega) rfl ?_)
        exact Post.joinE z ⟨rfl, rfl, rfl, rfl, rfl, rfl, rfl, rfl, rfl, rfl, rfl, rfl, trivial⟩ ⟨hrz, hbz, by omega, Sz⟩
    rintro z w14 ⟨hr14, hb14, ht14, S14⟩
    repeat (first | refine WL.move rfl rfl ?_ | refine WL.assign rfl rfl ?_ | refine W.seq ?_ | refine W.region ?_ | refine WL.nil ?_ | refine Post.next ?_ | refine Post.tail ?_ | refine W.cond_t rfl ?_ | refine W.cond_f rfl ?_ | refine W.block ?_ | refine W.skip ?_ | refine W.exit ?_ | refine W.ret ?_ | refine Post.block_exit ?_ | refine Post.block_other rfl ?_ | refine Post.then_exit ?_ | refine Post.then_ret ?_ | refine Post.block_ret ?_ | refine Post.block_normal ?_ | refine WL.lenS (tyS rfl) rfl rfl ?_ | refine WL.lenStr und9 rfl rfl ?_ | refine WL.fieldAddr (tyF rfl) rfl rfl ?_ | refine WL.not rfl rfl ?_ | refine WL.pick_t rfl rfl rfl ?_ | refine WL.pick_f rfl rfl rfl ?_ | refine WL.want rfl rfl ?_ | refine WL.skip rfl rfl rfl rfl ?_ | refine WL.extract rfl rfl rfl ?_ | refine WL.addI rfl rfl (by omega) rfl ?_ | refine WL.subI rfl rfl (by omega) rfl ?_ | refine WL.indexS (tyS rfl) rfl rfl (by omega) rfl ?_ | refine WL.indexA (tyR rfl) rfl rfl (by omega) rfl ?_)
    -- the codes by the closed form
    refine W.loop2 (fun (s : Nat) (_ : Nat → Nat) => [(0, .slice (some ⟨gL, 0, none⟩) k lc2), (1, .slice ca2 ch.length cc2), (2, .int .i64 bits), (3, ov), (4, .int .u64 (acc : Int)), (5, .int .u64 (n : Int)), (6, .slice ya2 ys.length yc2), (7, .int .i64 (alpha : Int)), (17, .int .i64 k), (22, .pointer (some ⟨b, 0, none⟩)), (31, .pointer (some ⟨gk, 0, none⟩)), (32, .int .i64 t), (36, .int .i64 s)])
      (fun s F w' => s ≤ alpha ∧ (∀ j, F j < 4294967296) ∧ (∀ t' u, t' < t → u < alpha → F (t' * 512 + u) = codeOf (f t') alpha u) ∧ (∀ u, u < s → F (t * 512 + u) = codeOf (f t) alpha u) ∧ Row w' gk (codC 6 F) 41 ∧ PW B b w' z (wrs st0 (S0.codsOps (t + 1))) ∧ BStep b w8 sv w' z) (fun s _ => alpha - s) 0 F ⟨rfl, rfl, rfl, rfl, rfl, rfl, rfl, rfl, rfl, rfl, rfl, rfl, rfl, trivial⟩
      ⟨by omega, hF, hFc, fun u h => by omega, hr14, hb14, S14⟩ ?_
    clear hr14 hb14 S14
    rintro s F1 w14 ⟨hs, hF1, hFo, hFn, hr14, hb14, S14⟩
    repeat (first | refine WL.move rfl rfl ?_ | refine WL.assign rfl rfl ?_ | refine W.seq ?_ | refine W.region ?_ | refine WL.nil ?_ | refine Post.next ?_ | refine Post.tail ?_ | refine W.cond_t rfl ?_ | refine W.cond_f rfl ?_ | refine W.block ?_ | refine W.skip ?_ | refine W.exit ?_ | refine W.ret ?_ | refine Post.block_exit ?_ | refine Post.block_other rfl ?_ | refine Post.then_exit ?_ | refine Post.then_ret ?_ | refine Post.block_ret ?_ | refine Post.block_normal ?_ | refine WL.lenS (tyS rfl) rfl rfl ?_ | refine WL.lenStr und9 rfl rfl ?_ | refine WL.fieldAddr (tyF rfl) rfl rfl ?_ | refine WL.not rfl rfl ?_ | refine WL.pick_t rfl rfl rfl ?_ | refine WL.pick_f rfl rfl rfl ?_ | refine WL.want rfl rfl ?_ | refine WL.skip rfl rfl rfl rfl ?_ | refine WL.extract rfl rfl rfl ?_ | refine WL.addI rfl rfl (by omega) rfl ?_ | refine WL.subI rfl rfl (by omega) rfl ?_ | refine WL.indexS (tyS rfl) rfl rfl (by omega) rfl ?_ | refine WL.indexA (tyR rfl) rfl rfl (by omega) rfl ?_)
    refine WL.lss rfl rfl rfl (fun hlt2 => ?_) (fun hge2 => ?_)
    · have hs' : s < alpha := by omega
      have hcs := hcel (hU S14) s (by omega)
      obtain ⟨hfs1, hfs2⟩ := hKl s hs'
      obtain ⟨hcode, _⟩ := codeOf_ks hKl hKk hs'
      have hts : t * 512 + s < 6 * 512 := by omega
      generalize hld : f t s = l at *
      repeat (first | refine WL.move rfl rfl ?_ | refine WL.assign rfl rfl ?_ | refine W.seq ?_ | refine W.region ?_ | refine WL.nil ?_ | refine Post.next ?_ | refine Post.tail ?_ | refine W.cond_t rfl ?_ | refine W.cond_f rfl ?_ | refine W.block ?_ | refine W.skip ?_ | refine W.exit ?_ | refine W.ret ?_ | refine Post.block_exit ?_ | refine Post.block_other rfl ?_ | refine Post.then_exit ?_ | refine Post.then_ret ?_ | refine Post.block_ret ?_ | refine Post.block_normal ?_ | refine WL.lenS (tyS rfl) rfl rfl ?_ | refine WL.lenStr und9 rfl rfl ?_ | refine WL.fieldAddr (tyF rfl) rfl rfl ?_ | refine WL.not rfl rfl ?_ | refine WL.pick_t rfl rfl rfl ?_ | refine WL.pick_f rfl rfl rfl ?_ | refine WL.want rfl rfl ?_ | refine WL.skip rfl rfl rfl rfl ?_ | refine WL.extract rfl rfl rfl ?_ | refine WL.addI rfl rfl (by omega) rfl ?_ | refine WL.subI rfl rfl (by omega) rfl ?_ | refine WL.indexS (tyS rfl) rfl rfl (by omega) rfl ?_ | refine WL.indexA (tyR rfl) rfl rfl (by omega) rfl ?_)
      refine WL.load (o' := 0 + (t * 512 + s)) (tyP rfl) rfl (fun _ e => e) hcs (by first | omega | (simp; done) | (simp; omega)) rfl ?_
      refine WL.conv' (kd' := .i64) (tyI rfl) (tyI rfl) rfl (i64w (by omega) (by omega)) rfl ?_
      repeat (first | refine WL.move rfl rfl ?_ | refine WL.assign rfl rfl ?_ | refine W.seq ?_ | refine W.region ?_ | refine WL.nil ?_ | refine Post.next ?_ | refine Post.tail ?_ | refine W.cond_t rfl ?_ | refine W.cond_f rfl ?_ | refine W.block ?_ | refine W.skip ?_ | refine W.exit ?_ | refine W.ret ?_ | refine Post.block_exit ?_ | refine Post.block_other rfl ?_ | refine Post.then_exit ?_ | refine Post.then_ret ?_ | refine Post.block_ret ?_ | refine Post.block_normal ?_ | refine WL.lenS (tyS rfl) rfl rfl ?_ | refine WL.lenStr und9 rfl rfl ?_ | refine WL.fieldAddr (tyF rfl) rfl rfl ?_ | refine WL.not rfl rfl ?_ | refine WL.pick_t rfl rfl rfl ?_ | refine WL.pick_f rfl rfl rfl ?_ | refine WL.want rfl rfl ?_ | refine WL.skip rfl rfl rfl rfl ?_ | refine WL.extract rfl rfl rfl ?_ | refine WL.addI rfl rfl (by omega) rfl ?_ | refine WL.subI rfl rfl (by omega) rfl ?_ | refine WL.indexS (tyS rfl) rfl rfl (by omega) rfl ?_ | refine WL.indexA (tyR rfl) rfl rfl (by omega) rfl ?_)
      refine W.loop2 (fun (u c : Nat) => [(0, .slice (some ⟨gL, 0, none⟩) k lc2), (1, .slice ca2 ch.length cc2), (2, .int .i64 bits), (3, ov), (4, .int .u64 (acc : Int)), (5, .int .u64 (n : Int)), (6, .slice ya2 ys.length yc2), (7, .int .i64 (alpha : Int)), (17, .int .i64 k), (22, .pointer (some ⟨b, 0, none⟩)), (31, .pointer (some ⟨gk, 0, none⟩)), (32, .int .i64 t), (36, .int .i64 s), (37, .int .i64 l), (38, .int .i64 c), (39, .int .i64 u)])
        (fun u c w' => w' = w14 ∧ u ≤ alpha ∧ c = ks (f t) l u + cnt (fun q => f t q == l) (min u s) ∧ c ≤ 131072 * u) (fun u _ => alpha - u) 0 0 ⟨rfl, rfl, rfl, rfl, rfl, rfl, rfl, rfl, rfl, rfl, rfl, rfl, rfl, rfl, rfl, rfl, trivial⟩
        ⟨rfl, by omega, by simp [ks, cnt], by omega⟩ ?_
      rintro u c w14 ⟨rfl, hu, hc, hcb'⟩
      repeat (first | refine WL.move rfl rfl ?_ | refine WL.assign rfl rfl ?_ | refine W.seq ?_ | refine W.region ?_ | refine WL.nil ?_ | refine Post.next ?_ | refine Post.tail ?_ | refine W.cond_t rfl ?_ | refine W.cond_f rfl ?_ | refine W.block ?_ | refine W.skip ?_ | refine W.exit ?_ | refine W.ret ?_ | refine Post.block_exit ?_ | refine Post.block_other rfl ?_ | refine Post.then_exit ?_ | refine Post.then_ret ?_ | refine Post.block_ret ?_ | refine Post.block_normal ?_ | refine WL.lenS (tyS rfl) rfl rfl ?_ | refine WL.lenStr und9 rfl rfl ?_ | refine WL.fieldAddr (tyF rfl) rfl rfl ?_ | refine WL.not rfl rfl ?_ | refine WL.pick_t rfl rfl rfl ?_ | refine WL.pick_f rfl rfl rfl ?_ | refine WL.want rfl rfl ?_ | refine WL.skip rfl rfl rfl rfl ?_ | refine WL.extract rfl rfl rfl ?_ | refine WL.addI rfl rfl (by omega) rfl ?_ | refine WL.subI rfl rfl (by omega) rfl ?_ | refine WL.indexS (tyS rfl) rfl rfl (by omega) rfl ?_ | refine WL.indexA (tyR rfl) rfl rfl (by omega) rfl ?_)
      refine WL.lss rfl rfl rfl (fun hlt3 => ?_) (fun hge3 => ?_)
      · have hu' : u < alpha := by omega
        have hcu := hcel (hU S14) u (by omega)
        obtain ⟨hfu1, hfu2⟩ := hKl u hu'
        have hks : ks (f t) l (u + 1) = ks (f t) l u + (if f t u < l then 2 ^ (l - f t u) else 0) := rfl
        have hcm : cnt (fun q => f t q == l) (min (u + 1) s) = cnt (fun q => f t q == l) (min u s) + (if f t u = l ∧ u < s then 1 else 0) := by
          by_cases h1 : u < s
          · have e1 : min (u + 1) s = min u s + 1 := by omega
            have e2 : min u s = u := by omega
            rw [e1, cnt, e2]
            simp [h1]
          · have e1 : min (u + 1) s = min u s := by omega
            rw [e1]
            simp [h1]
        generalize hlud : f t u = lu at *
        repeat (first | refine WL.move rfl rfl ?_ | refine WL.assign rfl rfl ?_ | refine W.seq ?_ | refine W.region ?_ | refine WL.nil ?_ | refine Post.next ?_ | refine Post.tail ?_ | refine W.cond_t rfl ?_ | refine W.cond_f rfl ?_ | refine W.block ?_ | refine W.skip ?_ | refine W.exit ?_ | refine W.ret ?_ | refine Post.block_exit ?_ | refine Post.block_other rfl ?_ | refine Post.then_exit ?_ | refine Post.then_ret ?_ | refine Post.block_ret ?_ | refine Post.block_normal ?_ | refine WL.lenS (tyS rfl) rfl rfl ?_ | refine WL.lenStr und9 rfl rfl ?_ | refine WL.fieldAddr (tyF rfl) rfl rfl ?_ | refine WL.not rfl rfl ?_ | refine WL.pick_t rfl rfl rfl ?_ | refine WL.pick_f rfl rfl rfl ?_ | refine WL.want rfl rfl ?_ | refine WL.skip rfl rfl rfl rfl ?_ | refine WL.extract rfl rfl rfl ?_ | refine WL.addI rfl rfl (by omega) rfl ?_ | refine WL.subI rfl rfl (by omega) rfl ?_ | refine WL.indexS (tyS rfl) rfl rfl (by omega) rfl ?_ | refine WL.indexA (tyR rfl) rfl rfl (by omega) rfl ?_)
        refine WL.load (o' := 0 + (t * 512 + u)) (tyP rfl) rfl (fun _ e => e) hcu (by first | omega | (simp; done) | (simp; omega)) rfl ?_
        refine WL.conv' (kd' := .i64) (tyI rfl) (tyI rfl) rfl (i64w (by omega) (by omega)) rfl ?_
        repeat (first | refine WL.move rfl rfl ?_ | refine WL.assign rfl rfl ?_ | refine W.seq ?_ | refine W.region ?_ | refine WL.nil ?_ | refine Post.next ?_ | refine Post.tail ?_ | refine W.cond_t rfl ?_ | refine W.cond_f rfl ?_ | refine W.block ?_ | refine W.skip ?_ | refine W.exit ?_ | refine W.ret ?_ | refine Post.block_exit ?_ | refine Post.block_other rfl ?_ | refine Post.then_exit ?_ | refine Post.then_ret ?_ | refine Post.block_ret ?_ | refine Post.block_normal ?_ | refine WL.lenS (tyS rfl) rfl rfl ?_ | refine WL.lenStr und9 rfl rfl ?_ | refine WL.fieldAddr (tyF rfl) rfl rfl ?_ | refine WL.not rfl rfl ?_ | refine WL.pick_t rfl rfl rfl ?_ | refine WL.pick_f rfl rfl rfl ?_ | refine WL.want rfl rfl ?_ | refine WL.skip rfl rfl rfl rfl ?_ | refine WL.extract rfl rfl rfl ?_ | refine WL.addI rfl rfl (by omega) rfl ?_ | refine WL.subI rfl rfl (by omega) rfl ?_ | refine WL.indexS (tyS rfl) rfl rfl (by omega) rfl ?_ | refine WL.indexA (tyR rfl) rfl rfl (by omega) rfl ?_)
        refine WL.lss rfl rfl rfl (fun hll => ?_) (fun hll => ?_)
        · have hne : ¬ (lu = l ∧ u < s) := by omega
          rw [if_pos (by omega)] at hks
          rw [if_neg hne] at hcm
          have hcl' : ((l : Int) - (lu : Int)) = ((l - lu : Nat) : Int) := by omega
          have hp17 := pow17 (l := l - lu) (by omega)
          repeat (first | refine WL.move rfl rfl ?_ | refine WL.assign rfl rfl ?_ | refine W.seq ?_ | refine W.region ?_ | refine WL.nil ?_ | refine Post.next ?_ | refine Post.tail ?_ | refine W.cond_t rfl ?_ | refine W.cond_f rfl ?_ | refine W.block ?_ | refine W.skip ?_ | refine W.exit ?_ | refine W.ret ?_ | refine Post.block_exit ?_ | refine Post.block_other rfl ?_ | refine Post.then_exit ?_ | refine Post.then_ret ?_ | refine Post.block_ret ?_ | refine Post.block_normal ?_ | refine WL.lenS (tyS rfl) rfl rfl ?_ | refine WL.lenStr und9 rfl rfl ?_ | refine WL.fieldAddr (tyF rfl) rfl rfl ?_ | refine WL.not rfl rfl ?_ | refine WL.pick_t rfl rfl rfl ?_ | refine WL.pick_f rfl rfl rfl ?_ | refine WL.want rfl rfl ?_ | refine WL.skip rfl rfl rfl rfl ?_ | refine WL.extract rfl rfl rfl ?_ | refine WL.addI rfl rfl (by omega) rfl ?_ | refine WL.subI rfl rfl (by omega) rfl ?_ | refine WL.indexS (tyS rfl) rfl rfl (by omega) rfl ?_ | refine WL.indexA (tyR rfl) rfl rfl (by omega) rfl ?_)
          rw [hcl']
          refine WL.conv' (kd' := .u64) (tyI rfl) (tyI rfl) rfl (u64w (by omega) (by omega)) rfl ?_
          refine WL.shl rfl rfl (by omega) rfl ?_
          rw [i64_pow (by omega)]
          generalize hpw : 2 ^ (l - lu) = pw at *
          repeat (first | refine WL.move rfl rfl ?_ | refine WL.assign rfl rfl ?_ | refine W.seq ?_ | refine W.region ?_ | refine WL.nil ?_ | refine Post.next ?_ | refine Post.tail ?_ | refine W.cond_t rfl ?_ | refine W.cond_f rfl ?_ | refine W.block ?_ | refine W.skip ?_ | refine W.exit ?_ | refine W.ret ?_ | refine Post.block_exit ?_ | refine Post.block_other rfl ?_ | refine Post.then_exit ?_ | refine Post.then_ret ?_ | refine Post.block_ret ?_ | refine Post.block_normal ?_ | refine WL.lenS (tyS rfl) rfl rfl ?_ | refine WL.lenStr und9 rfl rfl ?_ | refine WL.fieldAddr (tyF rfl) rfl rfl ?_ | refine WL.not rfl rfl ?_ | refine WL.pick_t rfl rfl rfl ?_ | refine WL.pick_f rfl rfl rfl ?_ | refine WL.want rfl rfl ?_ | refine WL.skip rfl rfl rfl rfl ?_ | refine WL.extract rfl rfl rfl ?_ | refine WL.addI rfl rfl (by omega) rfl ?_ | refine WL.subI rfl rfl (by omega) rfl ?_ | refine WL.indexS (tyS rfl) rfl rfl (by omega) rfl ?_ | refine WL.indexA (tyR rfl) rfl rfl (by omega) rfl ?_ | (first | refine WL.lss_t rfl rfl (by omega) rfl ?_ | refine WL.lss_f rfl rfl (by omega) rfl ?_ | refine WL.gtr_t rfl rfl (by omega) rfl ?_ | refine WL.gtr_f rfl rfl (by omega) rfl ?_ | refine WL.eqI_t rfl rfl (by omega) rfl ?_ | refine WL.eqI_f rfl rfl (by omega) rfl ?_ | refine WL.neqI_t rfl rfl (by omega) rfl ?_ | refine WL.neqI_f rfl rfl (by omega) rfl ?_ | refine WL.leq_t rfl rfl (by omega) rfl ?_ | refine WL.leq_f rfl rfl (by omega) rfl ?_ | refine WL.geq_t rfl rfl (by omega) rfl ?_ | refine WL.geq_f rfl rfl (by omega) rfl ?_))
          exact Post.round2 (u + 1) (c + pw) ⟨rfl, rfl, rfl, rfl, rfl, rfl, rfl, rfl, rfl, rfl, rfl, rfl, rfl, rfl, (by first | rfl | (simp [look]; done) | (simp [look]; omega)), (by first | rfl | (simp [look]; done) | (simp [look]; omega)), trivial⟩ ⟨rfl, by omega, by omega, by omega⟩ (by omega)
        · rw [if_neg (by omega)] at hks
          repeat (first | refine WL.move rfl rfl ?_ | refine WL.assign rfl rfl ?_ | refine W.seq ?_ | refine W.region ?_ | refine WL.nil ?_ | refine Post.next ?_ | refine Post.tail ?_ | refine W.cond_t rfl ?_ | refine W.cond_f rfl ?_ | refine W.block ?_ | refine W.skip ?_ | refine W.exit ?_ | refine W.ret ?_ | refine Post.block_exit ?_ | refine Post.block_other rfl ?_ | refine Post.then_exit ?_ | refine Post.then_ret ?_ | refine Post.block_ret ?_ | refine Post.block_normal ?_ | refine WL.lenS (tyS rfl) rfl rfl ?_ | refine WL.lenStr und9 rfl rfl ?_ | refine WL.fieldAddr (tyF rfl) rfl rfl ?_ | refine WL.not rfl rfl ?_ | refine WL.pick_t rfl rfl rfl ?_ | refine WL.pick_f rfl rfl rfl ?_ | refine WL.want rfl rfl ?_ | refine WL.skip rfl rfl rfl rfl ?_ | refine WL.extract rfl rfl rfl ?_ | refine WL.addI rfl rfl (by omega) rfl ?_ | refine WL.subI rfl rfl (by omega) rfl ?_ | refine WL.indexS (tyS rfl) rfl rfl (by omega) rfl ?_ | refine WL.indexA (tyR rfl) rfl rfl (by omega) rfl ?_)
          refine WL.eqI rfl rfl rfl (fun hel => ?_) (fun hel => ?_)
          · repeat (first | refine WL.move rfl rfl ?_ | refine WL.assign rfl rfl ?_ | refine W.seq ?_ | refine W.region ?_ | refine WL.nil ?_ | refine Post.next ?_ | refine Post.tail ?_ | refine W.cond_t rfl ?_ | refine W.cond_f rfl ?_ | refine W.block ?_ | refine W.skip ?_ | refine W.exit ?_ | refine W.ret ?_ | refine Post.block_exit ?_ | refine Post.block_other rfl ?_ | refine Post.then_exit ?_ | refine Post.then_ret ?_ | refine Post.block_ret ?_ | refine Post.block_normal ?_ | refine WL.lenS (tyS rfl) rfl rfl ?_ | refine WL.lenStr und9 rfl rfl ?_ | refine WL.fieldAddr (tyF rfl) rfl rfl ?_ | refine WL.not rfl rfl ?_ | refine WL.pick_t rfl rfl rfl ?_ | refine WL.pick_f rfl rfl rfl ?_ | refine WL.want rfl rfl ?_ | refine WL.skip rfl rfl rfl rfl ?_ | refine WL.extract rfl rfl rfl ?_ | refine WL.addI rfl rfl (by omega) rfl ?_ | refine WL.subI rfl rfl (by omega) rfl ?_ | refine WL.indexS (tyS rfl) rfl rfl (by omega) rfl ?_ | refine WL.indexA (tyR rfl) rfl rfl (by omega) rfl ?_)
            refine WL.lss rfl rfl rfl (fun hus => ?_) (fun hus => ?_)
            · rw [if_pos (by omega)] at hcm
              repeat (first | refine WL.move rfl rfl ?_ | refine WL.assign rfl rfl ?_ | refine W.seq ?_ | refine W.region ?_ | refine WL.nil ?_ | refine Post.next ?_ | refine Post.tail ?_ | refine W.cond_t rfl ?_ | refine W.cond_f rfl ?_ | refine W.block ?_ | refine W.skip ?_ | refine W.exit ?_ | refine W.ret ?_ | refine Post.block_exit ?_ | refine Post.block_other rfl ?_ | refine Post.then_exit ?_ | refine Post.then_ret ?_ | refine Post.block_ret ?_ | refine Post.block_normal ?_ | refine WL.lenS (tyS rfl) rfl rfl ?_ | refine WL.lenStr und9 rfl rfl ?_ | refine WL.fieldAddr (tyF rfl) rfl rfl ?_ | refine WL.not rfl rfl ?_ | refine WL.pick_t rfl rfl rfl ?_ | refine WL.pick_f rfl rfl rfl ?_ | refine WL.want rfl rfl ?_ | refine WL.skip rfl rfl rfl rfl ?_ | refine WL.extract rfl rfl rfl ?_ | refine WL.addI rfl rfl (by omega) rfl ?_ | refine WL.subI rfl rfl (by omega) rfl ?_ | refine WL.indexS (tyS rfl) rfl rfl (by omega) rfl ?_ | refine WL.indexA (tyR rfl) rfl rfl (by omega) rfl ?_)
              exact Post.round2 (u + 1) (c + 1) ⟨rfl, rfl, rfl, rfl, rfl, rfl, rfl, rfl, rfl, rfl, rfl, rfl, rfl, rfl, (by first | rfl | (simp [look]; done) | (simp [look]; omega)), (by first | rfl | (simp [look]; done) | (simp [look]; omega)), trivial⟩ ⟨rfl, by omega, by omega, by omega⟩ (by omega)
            · rw [if_neg (by omega)] at hcm
              repeat (first | refine WL.move rfl rfl ?_ | refine WL.assign rfl rfl ?_ | refine W.seq ?_ | refine W.region ?_ | refine WL.nil ?_ | refine Post.next ?_ | refine Post.tail ?_ | refine W.cond_t rfl ?_ | refine W.cond_f rfl ?_ | refine W.block ?_ | refine W.skip ?_ | refine W.exit ?_ | refine W.ret ?_ | refine Post.block_exit ?_ | refine Post.block_other rfl ?_ | refine Post.then_exit ?_ | refine Post.then_ret ?_ | refine Post.block_ret ?_ | refine Post.block_normal ?_ | refine WL.lenS (tyS rfl) rfl rfl ?_ | refine WL.lenStr und9 rfl rfl ?_ | refine WL.fieldAddr (tyF rfl) rfl rfl ?_ | refine WL.not rfl rfl ?_ | refine WL.pick_t rfl rfl rfl ?_ | refine WL.pick_f rfl rfl rfl ?_ | refine WL.want rfl rfl ?_ | refine WL.skip rfl rfl rfl rfl ?_ | refine WL.extract rfl rfl rfl ?_ | refine WL.addI rfl rfl (by omega) rfl ?_ | refine WL.subI rfl rfl (by omega) rfl ?_ | refine WL.indexS (tyS rfl) rfl rfl (by omega) rfl ?_ | refine WL.indexA (tyR rfl) rfl rfl (by omega) rfl ?_)
              exact Post.round2 (u + 1) c ⟨rfl, rfl, rfl, rfl, rfl, rfl, rfl, rfl, rfl, rfl, rfl, rfl, rfl, rfl, rfl, (by first | rfl | (simp [look]; done) | (simp [look]; omega)), trivial⟩ ⟨rfl, by omega, by omega, by omega⟩ (by omega)
          · rw [if_neg (by omega)] at hcm
            repeat (first | refine WL.move rfl rfl ?_ | refine WL.assign rfl rfl ?_ | refine W.seq ?_ | refine W.region ?_ | refine WL.nil ?_ | refine Post.next ?_ | refine Post.tail ?_ | refine W.cond_t rfl ?_ | refine W.cond_f rfl ?_ | refine W.block ?_ | refine W.skip ?_ | refine W.exit ?_ | refine W.ret ?_ | refine Post.block_exit ?_ | refine Post.block_other rfl ?_ | refine Post.then_exit ?_ | refine Post.then_ret ?_ | refine Post.block_ret ?_ | refine Post.block_normal ?_ | refine WL.lenS (tyS rfl) rfl rfl ?_ | refine WL.lenStr und9 rfl rfl ?_ | refine WL.fieldAddr (tyF rfl) rfl rfl ?_ | refine WL.not rfl rfl ?_ | refine WL.pick_t rfl rfl rfl ?_ | refine WL.pick_f rfl rfl rfl ?_ | refine WL.want rfl rfl ?_ | refine WL.skip rfl rfl rfl rfl ?_ | refine WL.extract rfl rfl rfl ?_ | refine WL.addI rfl rfl (by omega) rfl ?_ | refine WL.subI rfl rfl (by omega) rfl ?_ | refine WL.indexS (tyS rfl) rfl rfl (by omega) rfl ?_ | refine WL.indexA (tyR rfl) rfl rfl (by omega) rfl ?_)
            exact Post.round2 (u + 1) c ⟨rfl, rfl, rfl, rfl, rfl, rfl, rfl, rfl, rfl, rfl, rfl, rfl, rfl, rfl, rfl, (by first | rfl | (simp [look]; done) | (simp [look]; omega)), trivial⟩ ⟨rfl, by omega, by omega, by omega⟩ (by omega)
      · have hua : u = alpha := by omega
        have hms : min u s = s := by omega
        rw [hms, hua, ← hcode] at hc
        repeat (first | refine WL.move rfl rfl ?_ | refine WL.assign rfl rfl ?_ | refine W.seq ?_ | refine W.region ?_ | refine WL.nil ?_ | refine Post.next ?_ | refine Post.tail ?_ | refine W.cond_t rfl ?_ | refine W.cond_f rfl ?_ | refine W.block ?_ | refine W.skip ?_ | refine W.exit ?_ | refine W.ret ?_ | refine Post.block_exit ?_ | refine Post.block_other rfl ?_ | refine Post.then_exit ?_ | refine Post.then_ret ?_ | refine Post.block_ret ?_ | refine Post.block_normal ?_ | refine WL.lenS (tyS rfl) rfl rfl ?_ | refine WL.lenStr und9 rfl rfl ?_ | refine WL.fieldAddr (tyF rfl) rfl rfl ?_ | refine WL.not rfl rfl ?_ | refine WL.pick_t rfl rfl rfl ?_ | refine WL.pick_f rfl rfl rfl ?_ | refine WL.want rfl rfl ?_ | refine WL.skip rfl rfl rfl rfl ?_ | refine WL.extract rfl rfl rfl ?_ | refine WL.addI rfl rfl (by omega) rfl ?_ | refine WL.subI rfl rfl (by omega) rfl ?_ | refine WL.indexS (tyS rfl) rfl rfl (by omega) rfl ?_ | refine WL.indexA (tyR rfl) rfl rfl (by omega) rfl ?_)
        refine WL.conv' (kd' := .u32) (tyI rfl) (tyI rfl) rfl (u32w (by omega) (by omega)) rfl ?_
        repeat (first | refine WL.move rfl rfl ?_ | refine WL.assign rfl rfl ?_ | refine W.seq ?_ | refine W.region ?_ | refine WL.nil ?_ | refine Post.next ?_ | refine Post.tail ?_ | refine W.cond_t rfl ?_ | refine W.cond_f rfl ?_ | refine W.block ?_ | refine W.skip ?_ | refine W.exit ?_ | refine W.ret ?_ | refine Post.block_exit ?_ | refine Post.block_other rfl ?_ | refine Post.then_exit ?_ | refine Post.then_ret ?_ | refine Post.block_ret ?_ | refine Post.block_normal ?_ | refine WL.lenS (tyS rfl) rfl rfl ?_ | refine WL.lenStr und9 rfl rfl ?_ | refine WL.fieldAddr (tyF rfl) rfl rfl ?_ | refine WL.not rfl rfl ?_ | refine WL.pick_t rfl rfl rfl ?_ | refine WL.pick_f rfl rfl rfl ?_ | refine WL.want rfl rfl ?_ | refine WL.skip rfl rfl rfl rfl ?_ | refine WL.extract rfl rfl rfl ?_ | refine WL.addI rfl rfl (by omega) rfl ?_ | refine WL.subI rfl rfl (by omega) rfl ?_ | refine WL.indexS (tyS rfl) rfl rfl (by omega) rfl ?_ | refine WL.indexA (tyR rfl) rfl rfl (by omega) rfl ?_)
        refine WL.store (o' := t * 512 + s) (tyP rfl) rfl rfl rfl hr14 (by first | omega | (simp; done) | (simp; omega)) (by rw [codC_len]; exact hts) ?_
        intro w15 hg15 hz15 hr15
        refine ⟨trivial, ?_⟩
        rw [codC_set hts] at hr15
        have hb15 := hb14.new hg15 hgkb hr14 (by decide)
        have S15 := S14.new hg15 (by omega)
        repeat (first | refine WL.move rfl rfl ?_ | refine WL.assign rfl rfl ?_ | refine W.seq ?_ | refine W.region ?_ | refine WL.nil ?_ | refine Post.next ?_ | refine Post.tail ?_ | refine W.cond_t rfl ?_ | refine W.cond_f rfl ?_ | refine W.block ?_ | refine W.skip ?_ | refine W.exit ?_ | refine W.ret ?_ | refine Post.block_exit ?_ | refine Post.block_other rfl ?_ | refine Post.then_exit ?_ | refine Post.then_ret ?_ | refine Post.block_ret ?_ | refine Post.block_normal ?_ | refine WL.lenS (tyS rfl) rfl rfl ?_ | refine WL.lenStr und9 rfl rfl ?_ | refine WL.fieldAddr (tyF rfl) rfl rfl ?_ | refine WL.not rfl rfl ?_ | refine WL.pick_t rfl rfl rfl ?_ | refine WL.pick_f rfl rfl rfl ?_ | refine WL.want rfl rfl ?_ | refine WL.skip rfl rfl rfl rfl ?_ | refine WL.extract rfl rfl rfl ?_ | refine WL.addI rfl rfl (by omega) rfl ?_ | refine WL.subI rfl rfl (by omega) rfl ?_ | refine WL.indexS (tyS rfl) rfl rfl (by omega) rfl ?_ | refine WL.indexA (tyR rfl) rfl rfl (by omega) rfl ?_)
        refine Post.round2 (s + 1) (upd F1 (t * 512 + s) c) ⟨rfl, rfl, rfl, rfl, rfl, rfl, rfl, rfl, rfl, rfl, rfl, rfl, (by first | rfl | (simp [look]; done) | (simp [look]; omega)), trivial⟩ ⟨by omega, ?_, ?_, ?_, hr15, hb15, S15⟩ (by omega)
        · intro i
          unfold upd
          split
          · omega
          · exact hF1 i
        · intro t' q h1 h2
          unfold upd
          rw [if_neg (by omega)]
          exact hFo t' q h1 h2
        · intro q h1
          unfold upd
          by_cases e : q = s
          · subst e
            rw [if_pos rfl]; exact hc
          · rw [if_neg (by omega)]
            exact hFn q (by omega)
    · repeat (first | refine WL.move rfl rfl ?_ | refine WL.assign rfl rfl ?_ | refine W.seq ?_ | refine W.region ?_ | refine WL.nil ?_ | refine Post.next ?_ | refine Post.tail ?_ | refine W.cond_t rfl ?_ | refine W.cond_f rfl ?_ | refine W.block ?_ | refine W.skip ?_ | refine W.exit ?_ | refine W.ret ?_ | refine Post.block_exit ?_ | refine Post.block_other rfl ?_ | refine Post.then_exit ?_ | refine Post.then_ret ?_ | refine Post.block_ret ?_ | refine Post.block_normal ?_ | refine WL.lenS (tyS rfl) rfl rfl ?_ | refine WL.lenStr und9 rfl rfl ?_ | refine WL.fieldAddr (tyF rfl) rfl rfl ?_ | refine WL.not rfl rfl ?_ | refine WL.pick_t rfl rfl rfl ?_ | refine WL.pick_f rfl rfl rfl ?_ | refine WL.want rfl rfl ?_ | refine WL.skip rfl rfl rfl rfl ?_ | refine WL.extract rfl rfl rfl ?_ | refine WL.addI rfl rfl (by omega) rfl ?_ | refine WL.subI rfl rfl (by omega) rfl ?_ | refine WL.indexS (tyS rfl) rfl rfl (by omega) rfl ?_ | refine WL.indexA (tyR rfl) rfl rfl (by omega) rfl ?_)
      refine Post.round3 (t + 1) F1 z ⟨rfl, rfl, rfl, rfl, rfl, rfl, rfl, rfl, rfl, rfl, rfl, (by first | rfl | (simp [look]; done) | (simp [look]; omega)), trivial⟩ ⟨by omega, hF1, ?_, by omega, hr14, hb14, S14⟩ (by omega)
      intro t' q h1 h2
      by_cases e : t' = t
      · subst e
        exact hFn q (by omega)
      · exact hFo t' q (by omega) h2
  have htk2 : t = k := by omega
  rw [htk2] at hbx htO hFc
  clear hge htk
  have hn := tot_syms S0 (fun t u => codeOf (f t) alpha u) (fun t u => by rw [hSf]; exact hf8 t u)
  repeat (first | refine WL.move rfl rfl ?_ | refine WL.assign rfl rfl ?_ | refine W.seq ?_ | refine W.region ?_ | refine WL.nil ?_ | refine Post.next ?_ | refine Post.tail ?_ | refine W.cond_t rfl ?_ | refine W.cond_f rfl ?_ | refine W.block ?_ | refine W.skip ?_ | refine W.exit ?_ | refine W.ret ?_ | refine Post.block_exit ?_ | refine Post.block_other rfl ?_ | refine Post.then_exit ?_ | refine Post.then_ret ?_ | refine Post.block_ret ?_ | refine Post.block_normal ?_ | refine WL.lenS (tyS rfl) rfl rfl ?_ | refine WL.lenStr und9 rfl rfl ?_ | refine WL.fieldAddr (tyF rfl) rfl rfl ?_ | refine WL.not rfl rfl ?_ | refine WL.pick_t rfl rfl rfl ?_ | refine WL.pick_f rfl rfl rfl ?_ | refine WL.want rfl rfl ?_ | refine WL.skip rfl rfl rfl rfl ?_ | refine WL.extract rfl rfl rfl ?_ | refine WL.addI rfl rfl (by omega) rfl ?_ | refine WL.subI rfl rfl (by omega) rfl ?_ | refine WL.indexS (tyS rfl) rfl rfl (by omega) rfl ?_ | refine WL.indexA (tyR rfl) rfl rfl (by omega) rfl ?_)
  -- the symbols
  refine W.loop2 (fun (i : Nat) (_ : Value) => [(0, .slice la2 k lc2), (1, .slice ca2 ch.length cc2), (2, .int .i64 bits), (3, ov), (4, .int .u64 (acc : Int)), (5, .int .u64 (n : Int)), (6, .slice ya2 ys.length yc2), (7, .int .i64 al), (17, .int .i64 k), (22, .pointer (some ⟨b, 0, none⟩)), (31, .pointer (some ⟨gk, 0, none⟩)), (41, .int .i64 i)])
    (fun i u wx => i ≤ ys.length ∧ Row wx gk (codC 6 F) 41 ∧ PW B b wx u (wrs st0 (S0.codsOps k ++ (List.range i).map (S0.symOp fun t u => codeOf (f t) alpha u))) ∧ BStep b w8 sv wx u) (fun i _ => ys.length - i) 0 u ⟨rfl, rfl, rfl, rfl, rfl, rfl, rfl, rfl, rfl, rfl, rfl, rfl, trivial⟩
    ⟨by omega, hrx, by rw [List.range_zero, List.map_nil, List.append_nil]; exact hbx, Sx⟩ ?_
  clear hrx hbx Sx
  rintro i u wx ⟨hi, hrx, hbx, Sx⟩
  repeat (first | refine WL.move rfl rfl ?_ | refine WL.assign rfl rfl ?_ | refine W.seq ?_ | refine W.region ?_ | refine WL.nil ?_ | refine Post.next ?_ | refine Post.tail ?_ | refine W.cond_t rfl ?_ | refine W.cond_f rfl ?_ | refine W.block ?_ | refine W.skip ?_ | refine W.exit ?_ | refine W.ret ?_ | refine Post.block_exit ?_ | refine Post.block_other rfl ?_ | refine Post.then_exit ?_ | refine Post.then_ret ?_ | refine Post.block_ret ?_ | refine Post.block_normal ?_ | refine WL.lenS (tyS rfl) rfl rfl ?_ | refine WL.lenStr und9 rfl rfl ?_ | refine WL.fieldAddr (tyF rfl) rfl rfl ?_ | refine WL.not rfl rfl ?_ | refine WL.pick_t rfl rfl rfl ?_ | refine WL.pick_f rfl rfl rfl ?_ | refine WL.want rfl rfl ?_ | refine WL.skip rfl rfl rfl rfl ?_ | refine WL.extract rfl rfl rfl ?_ | refine WL.addI rfl rfl (by omega) rfl ?_ | refine WL.subI rfl rfl (by omega) rfl ?_ | refine WL.indexS (tyS rfl) rfl rfl (by omega) rfl ?_ | refine WL.indexA (tyR rfl) rfl rfl (by omega) rfl ?_)
  refine WL.lss rfl rfl rfl (fun hlt => ?_) (fun hge => ?_)
  · have hi' : i < ys.length := by omega
    have hk0 := hck0 (by omega)
    obtain ⟨ha1, ha2⟩ := halp hk0
    have hal' := hal hk0
    subst hal'
    obtain ⟨hla', hrowL⟩ := hgL hk0
    subst hla'
    have hyb' := hyb (by omega)
    subst hyb'
    have hq : i / 50 < ch.length := by omega
    have hcb' := hcb (by omega)
    subst hcb'
    have hcc : wx.cell? ⟨cb, co + i / 50, none⟩ = some (.int .u8 (ch[i / 50] : Int)) := (hAt5.up (hU Sx)).c _ hq
    have hyy : wx.cell? ⟨yb, yo + i, none⟩ = some (.int .u16 (ys[i] : Int)) := (hAt5.up (hU Sx)).y _ hi'
    have hcj := hck _ hq
    have hyi' := hyk' _ hi'
    have hgt : ch.getD (i / 50) 0 = ch[i / 50] := by rw [List.getD_eq_getElem?_getD, List.getElem?_eq_getElem hq]; rfl
    have hgy : ys.getD i 0 = ys[i] := by rw [List.getD_eq_getElem?_getD, List.getElem?_eq_getElem hi']; rfl
    generalize htd : ch[i / 50] = tc at *
    generalize hyd : ys[i] = y at *
    have hSx := Sx.drew
    have hrd := hrx.up (Up.drew wx)
    have hbd := hbx.up (grown_drew wx)
    have hcod : (codC 6 F)[tc * 512 + y]? = some (.int .u32 (F (tc * 512 + y) : Int)) := codC_get (by omega)
    have hFb := hF (tc * 512 + y)
    obtain ⟨hKl, hKk⟩ := hK' tc hcj
    have hfy := hKl y hyi'
    have hFe := hFc tc y hcj hyi'
    have hFl := (codeOf_ks hKl hKk hyi').2
    rw [← hFe] at hFl
    have hsym : S0.symOp (fun t u => codeOf (f t) alpha u) i = (F (tc * 512 + y), f tc y) := by
      unfold Src.symOp
      rw [hSf, hS, hFe]
      simp only [hgt, hgy]
    have htt : tot (S0.codsOps k ++ (List.range i).map (S0.symOp fun t u => codeOf (f t) alpha u)) ≤ 67108864 := by
      have := hn i
      rw [tot_app]; omega
    generalize hOd : S0.codsOps k ++ (List.range i).map (S0.symOp fun t u => codeOf (f t) alpha u) = O at *
    have hci50 : ((i : Int) / 50) = ((i / 50 : Nat) : Int) := by omega
    repeat (first | refine WL.move rfl rfl ?_ | refine WL.assign rfl rfl ?_ | refine W.seq ?_ | refine W.region ?_ | refine WL.nil ?_ | refine Post.next ?_ | refine Post.tail ?_ | refine W.cond_t rfl ?_ | refine W.cond_f rfl ?_ | refine W.block ?_ | refine W.skip ?_ | refine W.exit ?_ | refine W.ret ?_ | refine Post.block_exit ?_ | refine Post.block_other rfl ?_ | refine Post.then_exit ?_ | refine Post.then_ret ?_ | refine Post.block_ret ?_ | refine Post.block_normal ?_ | refine WL.lenS (tyS rfl) rfl rfl ?_ | refine WL.lenStr und9 rfl rfl ?_ | refine WL.fieldAddr (tyF rfl) rfl rfl ?_ | refine WL.not rfl rfl ?_ | refine WL.pick_t rfl rfl rfl ?_ | refine WL.pick_f rfl rfl rfl ?_ | refine WL.want rfl rfl ?_ | refine WL.skip rfl rfl rfl rfl ?_ | refine WL.extract rfl rfl rfl ?_ | refine WL.addI rfl rfl (by omega) rfl ?_ | refine WL.subI rfl rfl (by omega) rfl ?_ | refine WL.indexS (tyS rfl) rfl rfl (by omega) rfl ?_ | refine WL.indexA (tyR rfl) rfl rfl (by omega) rfl ?_)
    refine WL.quoI rfl rfl (by omega) (by omega) rfl ?_
    rw [hci50]
    repeat (first | refine WL.move rfl rfl ?_ | refine WL.assign rfl rfl ?_ | refine W.seq ?_ | refine W.region ?_ | refine WL.nil ?_ | refine Post.next ?_ | refine Post.tail ?_ | refine W.cond_t rfl ?_ | refine W.cond_f rfl ?_ | refine W.block ?_ | refine W.skip ?_ | refine W.exit ?_ | refine W.ret ?_ | refine Post.block_exit ?_ | refine Post.block_other rfl ?_ | refine Post.then_exit ?_ | refine Post.then_ret ?_ | refine Post.block_ret ?_ | refine Post.block_normal ?_ | refine WL.lenS (tyS rfl) rfl rfl ?_ | refine WL.lenStr und9 rfl rfl ?_ | refine WL.fieldAddr (tyF rfl) rfl rfl ?_ | refine WL.not rfl rfl ?_ | refine WL.pick_t rfl rfl rfl ?_ | refine WL.pick_f rfl rfl rfl ?_ | refine WL.want rfl rfl ?_ | refine WL.skip rfl rfl rfl rfl ?_ | refine WL.extract rfl rfl rfl ?_ | refine WL.addI rfl rfl (by omega) rfl ?_ | refine WL.subI rfl rfl (by omega) rfl ?_ | refine WL.indexS (tyS rfl) rfl rfl (by omega) rfl ?_ | refine WL.indexA (tyR rfl) rfl rfl (by omega) rfl ?_)
    refine WL.load (o' := co + i / 50) (tyP rfl) rfl (fun _ e => e) hcc (by first | omega | (simp; done) | (simp; omega)) rfl ?_
    refine WL.conv' (kd' := .i64) (tyI rfl) (tyI rfl) rfl (i64w (by omega) (by omega)) rfl ?_
    repeat (first | refine WL.move rfl rfl ?_ | refine WL.assign rfl rfl ?_ | refine W.seq ?_ | refine W.region ?_ | refine WL.nil ?_ | refine Post.next ?_ | refine Post.tail ?_ | refine W.cond_t rfl ?_ | refine W.cond_f rfl ?_ | refine W.block ?_ | refine W.skip ?_ | refine W.exit ?_ | refine W.ret ?_ | refine Post.block_exit ?_ | refine Post.block_other rfl ?_ | refine Post.then_exit ?_ | refine Post.then_ret ?_ | refine Post.block_ret ?_ | refine Post.block_normal ?_ | refine WL.lenS (tyS rfl) rfl rfl ?_ | refine WL.lenStr und9 rfl rfl ?_ | refine WL.fieldAddr (tyF rfl) rfl rfl ?_ | refine WL.not rfl rfl ?_ | refine WL.pick_t rfl rfl rfl ?_ | refine WL.pick_f rfl rfl rfl ?_ | refine WL.want rfl rfl ?_ | refine WL.skip rfl rfl rfl rfl ?_ | refine WL.extract rfl rfl rfl ?_ | refine WL.addI rfl rfl (by omega) rfl ?_ | refine WL.subI rfl rfl (by omega) rfl ?_ | refine WL.indexS (tyS rfl) rfl rfl (by omega) rfl ?_ | refine WL.indexA (tyR rfl) rfl rfl (by omega) rfl ?_)
    refine WL.load (o' := yo + i) (tyP rfl) rfl (fun _ e => e) hyy (by first | omega | (simp; done) | (simp; omega)) rfl ?_
    refine WL.conv' (kd' := .i64) (tyI rfl) (tyI rfl) rfl (i64w (by omega) (by omega)) rfl ?_
    repeat (first | refine WL.move rfl rfl ?_ | refine WL.assign rfl rfl ?_ | refine W.seq ?_ | refine W.region ?_ | refine WL.nil ?_ | refine Post.next ?_ | refine Post.tail ?_ | refine W.cond_t rfl ?_ | refine W.cond_f rfl ?_ | refine W.block ?_ | refine W.skip ?_ | refine W.exit ?_ | refine W.ret ?_ | refine Post.block_exit ?_ | refine Post.block_other rfl ?_ | refine Post.then_exit ?_ | refine Post.then_ret ?_ | refine Post.block_ret ?_ | refine Post.block_normal ?_ | refine WL.lenS (tyS rfl) rfl rfl ?_ | refine WL.lenStr und9 rfl rfl ?_ | refine WL.fieldAddr (tyF rfl) rfl rfl ?_ | refine WL.not rfl rfl ?_ | refine WL.pick_t rfl rfl rfl ?_ | refine WL.pick_f rfl rfl rfl ?_ | refine WL.want rfl rfl ?_ | refine WL.skip rfl rfl rfl rfl ?_ | refine WL.extract rfl rfl rfl ?_ | refine WL.addI rfl rfl (by omega) rfl ?_ | refine WL.subI rfl rfl (by omega) rfl ?_ | refine WL.indexS (tyS rfl) rfl rfl (by omega) rfl ?_ | refine WL.indexA (tyR rfl) rfl rfl (by omega) rfl ?_)
    refine W.region_p [(0, true), (1, true), (2, true), (3, true), (4, true), (5, true), (6, true), (7, true), (8, true), (9, true), (10, true), (11, true), (12, true), (13, false)] (fun w' => (∃ v', BStep b w8 sv w' v') ∧ Row w' gk (codC 6 F) 41) mixed (by kernel_rfl) ⟨⟨u, hSx⟩, hrd⟩ ?_
    repeat (first | refine WL.move rfl rfl ?_ | refine WL.assign rfl rfl ?_ | refine W.seq ?_ | refine W.region ?_ | refine WL.nil ?_ | refine Post.next ?_ | refine Post.tail ?_ | refine W.cond_t rfl ?_ | refine W.cond_f rfl ?_ | refine W.block ?_ | refine W.skip ?_ | refine W.exit ?_ | refine W.ret ?_ | refine Post.block_exit ?_ | refine Post.block_other rfl ?_ | refine Post.then_exit ?_ | refine Post.then_ret ?_ | refine Post.block_ret ?_ | refine Post.block_normal ?_ | refine WL.lenS (tyS rfl) rfl rfl ?_ | refine WL.lenStr und9 rfl rfl ?_ | refine WL.fieldAddr (tyF rfl) rfl rfl ?_ | refine WL.not rfl rfl ?_ | refine WL.pick_t rfl rfl rfl ?_ | refine WL.pick_f rfl rfl rfl ?_ | refine WL.want rfl rfl ?_ | refine WL.skip rfl rfl rfl rfl ?_ | refine WL.extract rfl rfl rfl ?_ | refine WL.addI rfl rfl (by omega) rfl ?_ | refine WL.subI rfl rfl (by omega) rfl ?_ | refine WL.indexS (tyS rfl) rfl rfl (by omega) rfl ?_ | refine WL.indexA (tyR rfl) rfl rfl (by omega) rfl ?_)
    refine WL.loadC (o' := tc * 512 + y) (tyP rfl) rfl (fun w' h => Row.cell h.2 hcod) (by first | omega | (simp; done) | (simp; omega)) rfl ?_
    refine WL.conv' (kd' := .u64) (tyI rfl) (tyI rfl) rfl (u64w (by omega) (by omega)) rfl ?_
    repeat (first | refine WL.move rfl rfl ?_ | refine WL.assign rfl rfl ?_ | refine W.seq ?_ | refine W.region ?_ | refine WL.nil ?_ | refine Post.next ?_ | refine Post.tail ?_ | refine W.cond_t rfl ?_ | refine W.cond_f rfl ?_ | refine W.block ?_ | refine W.skip ?_ | refine W.exit ?_ | refine W.ret ?_ | refine Post.block_exit ?_ | refine Post.block_other rfl ?_ | refine Post.then_exit ?_ | refine Post.then_ret ?_ | refine Post.block_ret ?_ | refine Post.block_normal ?_ | refine WL.lenS (tyS rfl) rfl rfl ?_ | refine WL.lenStr und9 rfl rfl ?_ | refine WL.fieldAddr (tyF rfl) rfl rfl ?_ | refine WL.not rfl rfl ?_ | refine WL.pick_t rfl rfl rfl ?_ | refine WL.pick_f rfl rfl rfl ?_ | refine WL.want rfl rfl ?_ | refine WL.skip rfl rfl rfl rfl ?_ | refine WL.extract rfl rfl rfl ?_ | refine WL.addI rfl rfl (by omega) rfl ?_ | refine WL.subI rfl rfl (by omega) rfl ?_ | refine WL.indexS (tyS rfl) rfl rfl (by omega) rfl ?_ | refine WL.indexA (tyR rfl) rfl rfl (by omega) rfl ?_)
    refine WL.loadC (o' := tc * 512 + y) (v := .int .u8 (f tc y : Int)) (tyP rfl) rfl (fun w' h => by
      obtain ⟨⟨v', h1⟩, _⟩ := h
      exact (hU h1).cell (hrowL.cell (lenC_at hcj (by omega)))) (by first | omega | (simp; done) | (simp; omega)) rfl ?_
    refine WL.conv' (kd' := .i64) (tyI rfl) (tyI rfl) rfl (i64w (by omega) (by omega)) rfl ?_
    repeat (first | refine WL.move rfl rfl ?_ | refine WL.assign rfl rfl ?_ | refine W.seq ?_ | refine W.region ?_ | refine WL.nil ?_ | refine Post.next ?_ | refine Post.tail ?_ | refine W.cond_t rfl ?_ | refine W.cond_f rfl ?_ | refine W.block ?_ | refine W.skip ?_ | refine W.exit ?_ | refine W.ret ?_ | refine Post.block_exit ?_ | refine Post.block_other rfl ?_ | refine Post.then_exit ?_ | refine Post.then_ret ?_ | refine Post.block_ret ?_ | refine Post.block_normal ?_ | refine WL.lenS (tyS rfl) rfl rfl ?_ | refine WL.lenStr und9 rfl rfl ?_ | refine WL.fieldAddr (tyF rfl) rfl rfl ?_ | refine WL.not rfl rfl ?_ | refine WL.pick_t rfl rfl rfl ?_ | refine WL.pick_f rfl rfl rfl ?_ | refine WL.want rfl rfl ?_ | refine WL.skip rfl rfl rfl rfl ?_ | refine WL.extract rfl rfl rfl ?_ | refine WL.addI rfl rfl (by omega) rfl ?_ | refine WL.subI rfl rfl (by omega) rfl ?_ | refine WL.indexS (tyS rfl) rfl rfl (by omega) rfl ?_ | refine WL.indexA (tyR rfl) rfl rfl (by omega) rfl ?_)
    refine WL.call _ (fnT rfl) (args3 rfl rfl rfl) (putN_o wx.drew b B u st0 O (F (tc * 512 + y)) (f tc y) hbd hn0 hl0 htt hFl (by omega)) (by rintro e w' ⟨rfl, _⟩; exact ⟨_, rfl⟩) rfl ?_
    rintro _ w12 ⟨hv, v12, hb12, hs12⟩
    cases hv
    have hr12 := hrd.bstep hs12 hgkb (own_ne_row hbd.own hrd (by decide))
    refine ⟨⟨⟨v12, hSx.trans hs12⟩, hr12⟩, ?_⟩
    repeat (first | refine WL.move rfl rfl ?_ | refine WL.assign rfl rfl ?_ | refine W.seq ?_ | refine W.region ?_ | refine WL.nil ?_ | refine Post.next ?_ | refine Post.tail ?_ | refine W.cond_t rfl ?_ | refine W.cond_f rfl ?_ | refine W.block ?_ | refine W.skip ?_ | refine W.exit ?_ | refine W.ret ?_ | refine Post.block_exit ?_ | refine Post.block_other rfl ?_ | refine Post.then_exit ?_ | refine Post.then_ret ?_ | refine Post.block_ret ?_ | refine Post.block_normal ?_ | refine WL.lenS (tyS rfl) rfl rfl ?_ | refine WL.lenStr und9 rfl rfl ?_ | refine WL.fieldAddr (tyF rfl) rfl rfl ?_ | refine WL.not rfl rfl ?_ | refine WL.pick_t rfl rfl rfl ?_ | refine WL.pick_f rfl rfl rfl ?_ | refine WL.want rfl rfl ?_ | refine WL.skip rfl rfl rfl rfl ?_ | refine WL.extract rfl rfl rfl ?_ | refine WL.addI rfl rfl (by omega) rfl ?_ | refine WL.subI rfl rfl (by omega) rfl ?_ | refine WL.indexS (tyS rfl) rfl rfl (by omega) rfl ?_ | refine WL.indexA (tyR rfl) rfl rfl (by omega) rfl ?_)
    refine Post.round2 (i + 1) v12 ⟨rfl, rfl, rfl, rfl, rfl, rfl, rfl, rfl, rfl, rfl, rfl, (by first | rfl | (simp [look]; done) | (simp [look]; omega)), trivial⟩ ⟨by omega, hr12, ?_, hSx.trans hs12⟩ (by omega)
    rw [List.range_succ, List.map_append, List.map_cons, List.map_nil, hsym, ← List.append_assoc, hOd]
    exact hb12
  have hiy : i = ys.length := by omega
  rw [hiy] at hbx
  have hall : S0.allOps (fun t u => codeOf (f t) alpha u) = S0.codsOps k ++ (List.range ys.length).map (S0.symOp fun t u => codeOf (f t) alpha u) := by
    unfold Src.allOps
    rw [hSk, hS]
  have htall : tot (S0.allOps (fun t u => codeOf (f t) alpha u)) ≤ 67108864 := by
    have := hn ys.length
    rw [hall, tot_app]; omega
  rw [← hall] at hbx
  have U5x := hU Sx
  have zx5 := U5x.size
  have hooz := ownsRow_up hoo5 U5x
  have hocz := ownsRow_up hoc5 U5x
  have hoyz := ownsRow_up hoy U5x
  have hat : ∀ w', (∀ i, i < wx.heap.size → ov.ownBlock ≠ some i → w'.heap[i]? = wx.heap[i]?) → Src.At (⟨la2, gL, 0, lc2, ca2, cb, co, cc2, ya2, yb, yo, yc2, k, alpha, f, ch, ys⟩ : Src) w' := by
    intro w' h
    have hrow : 0 < k → Row w' gL (lenC k f) 29 := fun h0 => by
      have hr := (hgL h0).2.up U5x
      unfold Row
      rw [h gL hr.lt (own_ne_row hooz hr (by decide))]; exact hr
    refine hAtO w' hrow ⟨fun hne => ?_⟩ ⟨fun hne => ?_⟩
    · obtain ⟨bk, o, e, hcell⟩ := (hci.up U5x).ad hne
      refine ⟨bk, o, e, fun i x hx => ?_⟩
      have hc := hcell i x hx
      have hbk := World.block_lt_of_cell? wx _ hc
      have hbk' : bk < wx.heap.size := hbk
      have hne' : ov.ownBlock ≠ some bk := fun e2 => by
        have h1 := (hoo.lt bk e2).1
        have h2 := (hoc.lt bk (by rw [e]; rfl)).2
        omega
      have := h bk hbk' hne'
      simpa [World.cell?, this] using hc
    · obtain ⟨bk, o, e, hcell⟩ := (hyi.up U5x).ad hne
      refine ⟨bk, o, e, fun i x hx => ?_⟩
      have hc := hcell i x hx
      have hbk := World.block_lt_of_cell? wx _ hc
      have hbk' : bk < wx.heap.size := hbk
      have hne' : ov.ownBlock ≠ some bk := fun e2 => by
        have h1 := (hoo.lt bk e2).2
        have h2 := (hoy.lt bk (by rw [e]; rfl)).1
        omega
      have := h bk hbk' hne'
      simpa [World.cell?, this] using hc
  repeat (first | refine WL.move rfl rfl ?_ | refine WL.assign rfl rfl ?_ | refine W.seq ?_ | refine W.region ?_ | refine WL.nil ?_ | refine Post.next ?_ | refine Post.tail ?_ | refine W.cond_t rfl ?_ | refine W.cond_f rfl ?_ | refine W.block ?_ | refine W.skip ?_ | refine W.exit ?_ | refine W.ret ?_ | refine Post.block_exit ?_ | refine Post.block_other rfl ?_ | refine Post.then_exit ?_ | refine Post.then_ret ?_ | refine Post.block_ret ?_ | refine Post.block_normal ?_ | refine WL.lenS (tyS rfl) rfl rfl ?_ | refine WL.lenStr und9 rfl rfl ?_ | refine WL.fieldAddr (tyF rfl) rfl rfl ?_ | refine WL.not rfl rfl ?_ | refine WL.pick_t rfl rfl rfl ?_ | refine WL.pick_f rfl rfl rfl ?_ | refine WL.want rfl rfl ?_ | refine WL.skip rfl rfl rfl rfl ?_ | refine WL.extract rfl rfl rfl ?_ | refine WL.addI rfl rfl (by omega) rfl ?_ | refine WL.subI rfl rfl (by omega) rfl ?_ | refine WL.indexS (tyS rfl) rfl rfl (by omega) rfl ?_ | refine WL.indexA (tyR rfl) rfl rfl (by omega) rfl ?_)
  refine WL.call _ (fnT rfl) (args8 rfl rfl rfl rfl rfl rfl rfl rfl) (zzcw_c (⟨la2, gL, 0, lc2, ca2, cb, co, cc2, ya2, yb, yo, yc2, k, alpha, f, ch, ys⟩ : Src) hok wx w3.heap.size ov bits al ⟨os, acc, n⟩ hooz (by omega) (by simp only; omega) hacc (by simp only; omega) hat hal) (by rintro e w' ⟨_, _, rfl, _⟩; exact ⟨_, rfl⟩) rfl ?_
  rintro v w12 ⟨v12, C, hv, hC, how, hst, _⟩
  cases hv
  refine ⟨trivial, ?_⟩
  have hops : Src.allOps (⟨la2, gL, 0, lc2, ca2, cb, co, cc2, ya2, yb, yo, yc2, k, alpha, f, ch, ys⟩ : Src) C = S0.allOps (fun t u => codeOf (f t) alpha u) := by
    rw [← hS]
    unfold Src.allOps
    congr 1
    refine List.map_congr_left (fun i hi => ?_)
    have hi' : i < ys.length := by
      have := List.mem_range.1 hi
      rw [hS] at this; exact this
    have hq : i / 50 < ch.length := by omega
    have hgt : ch.getD (i / 50) 0 = ch[i / 50] := by rw [List.getD_eq_getElem?_getD, List.getElem?_eq_getElem hq]; rfl
    have hgy : ys.getD i 0 = ys[i] := by rw [List.getD_eq_getElem?_getD, List.getElem?_eq_getElem hi']; rfl
    have hcj := hck _ hq
    have hyi' := hyk' _ hi'
    obtain ⟨hKl, _⟩ := hK' _ hcj
    have hfy := hKl _ hyi'
    have := hC (ch[i / 50]) (ys[i]) hcj hyi' hfy.1 hfy.2
    unfold Src.symOp
    rw [hS]
    simp only [hgt, hgy]
    rw [this]
  have hfin : wrs ⟨os, acc, n⟩ (Src.allOps (⟨la2, gL, 0, lc2, ca2, cb, co, cc2, ya2, yb, yo, yc2, k, alpha, f, ch, ys⟩ : Src) C) = wrs st0 (S0.allOps (fun t u => codeOf (f t) alpha u)) := by rw [hops, hst0]
  rw [hfin] at how ⊢
  have hlen := wrs_len (S0.allOps (fun t u => codeOf (f t) alpha u)) st0
  generalize wrs st0 (S0.allOps (fun t u => codeOf (f t) alpha u)) = fs at *
  have hb12 : PW B b w12 u fs := hbx.kept hst.g (own_ne_row hooz hbx.row (by decide)) (by
    cases hub : u.ownBlock with
    | none => exact .inl rfl
    | some q =>
      right
      intro e
      have h1 := (hbx.own.lt q hub).1
      have h2 := (hoo5.lt q e.symm).2
      omega)
  have U12 : Up w1 w12 := (U5.trans U5x).step hst.g (fun q hq => by have := (hoo.lt q hq).1; omega)
  repeat (first | refine WL.move rfl rfl ?_ | refine WL.assign rfl rfl ?_ | refine W.seq ?_ | refine W.region ?_ | refine WL.nil ?_ | refine Post.next ?_ | refine Post.tail ?_ | refine W.cond_t rfl ?_ | refine W.cond_f rfl ?_ | refine W.block ?_ | refine W.skip ?_ | refine W.exit ?_ | refine W.ret ?_ | refine Post.block_exit ?_ | refine Post.block_other rfl ?_ | refine Post.then_exit ?_ | refine Post.then_ret ?_ | refine Post.block_ret ?_ | refine Post.block_normal ?_ | refine WL.lenS (tyS rfl) rfl rfl ?_ | refine WL.lenStr und9 rfl rfl ?_ | refine WL.fieldAddr (tyF rfl) rfl rfl ?_ | refine WL.not rfl rfl ?_ | refine WL.pick_t rfl rfl rfl ?_ | refine WL.pick_f rfl rfl rfl ?_ | refine WL.want rfl rfl ?_ | refine WL.skip rfl rfl rfl rfl ?_ | refine WL.extract rfl rfl rfl ?_ | refine WL.addI rfl rfl (by omega) rfl ?_ | refine WL.subI rfl rfl (by omega) rfl ?_ | refine WL.indexS (tyS rfl) rfl rfl (by omega) rfl ?_ | refine WL.indexA (tyR rfl) rfl rfl (by omega) rfl ?_)
  refine WL.load (o' := 0) (tyP rfl) rfl (fun _ e => e) (hb12.row.cell rfl) (by first | omega | (simp; done) | (simp; omega)) rfl ?_
  repeat (first | refine WL.move rfl rfl ?_ | refine WL.assign rfl rfl ?_ | refine W.seq ?_ | refine W.region ?_ | refine WL.nil ?_ | refine Post.next ?_ | refine Post.tail ?_ | refine W.cond_t rfl ?_ | refine W.cond_f rfl ?_ | refine W.block ?_ | refine W.skip ?_ | refine W.exit ?_ | refine W.ret ?_ | refine Post.block_exit ?_ | refine Post.block_other rfl ?_ | refine Post.then_exit ?_ | refine Post.then_ret ?_ | refine Post.block_ret ?_ | refine Post.block_normal ?_ | refine WL.lenS (tyS rfl) rfl rfl ?_ | refine WL.lenStr und9 rfl rfl ?_ | refine WL.fieldAddr (tyF rfl) rfl rfl ?_ | refine WL.not rfl rfl ?_ | refine WL.pick_t rfl rfl rfl ?_ | refine WL.pick_f rfl rfl rfl ?_ | refine WL.want rfl rfl ?_ | refine WL.skip rfl rfl rfl rfl ?_ | refine WL.extract rfl rfl rfl ?_ | refine WL.addI rfl rfl (by omega) rfl ?_ | refine WL.subI rfl rfl (by omega) rfl ?_ | refine WL.indexS (tyS rfl) rfl rfl (by omega) rfl ?_ | refine WL.indexA (tyR rfl) rfl rfl (by omega) rfl ?_)
  refine WL.call _ (fnT rfl) (args2 rfl rfl) (eqB_v w12 v12 u fs.bs (IntsV_own how) (IntsV_own hb12.own) (by omega)) (by rintro e w' ⟨rfl, _⟩; exact ⟨_, rfl⟩) rfl ?_
  rintro v w13 ⟨hv, hu13⟩
  cases hv
  refine ⟨trivial, ?_⟩
  have hr13 := hb12.row.up hu13
  repeat (first | refine WL.move rfl rfl ?_ | refine WL.assign rfl rfl ?_ | refine W.seq ?_ | refine W.region ?_ | refine WL.nil ?_ | refine Post.next ?_ | refine Post.tail ?_ | refine W.cond_t rfl ?_ | refine W.cond_f rfl ?_ | refine W.block ?_ | refine W.skip ?_ | refine W.exit ?_ | refine W.ret ?_ | refine Post.block_exit ?_ | refine Post.block_other rfl ?_ | refine Post.then_exit ?_ | refine Post.then_ret ?_ | refine Post.block_ret ?_ | refine Post.block_normal ?_ | refine WL.lenS (tyS rfl) rfl rfl ?_ | refine WL.lenStr und9 rfl rfl ?_ | refine WL.fieldAddr (tyF rfl) rfl rfl ?_ | refine WL.not rfl rfl ?_ | refine WL.pick_t rfl rfl rfl ?_ | refine WL.pick_f rfl rfl rfl ?_ | refine WL.want rfl rfl ?_ | refine WL.skip rfl rfl rfl rfl ?_ | refine WL.extract rfl rfl rfl ?_ | refine WL.addI rfl rfl (by omega) rfl ?_ | refine WL.subI rfl rfl (by omega) rfl ?_ | refine WL.indexS (tyS rfl) rfl rfl (by omega) rfl ?_ | refine WL.indexA (tyR rfl) rfl rfl (by omega) rfl ?_)
  refine WL.load (o' := 3) (tyP rfl) rfl (fun _ e => e) (hr13.cell rfl) (by first | omega | (simp; done) | (simp; omega)) rfl ?_
  repeat (first | refine WL.move rfl rfl ?_ | refine WL.assign rfl rfl ?_ | refine W.seq ?_ | refine W.region ?_ | refine WL.nil ?_ | refine Post.next ?_ | refine Post.tail ?_ | refine W.cond_t rfl ?_ | refine W.cond_f rfl ?_ | refine W.block ?_ | refine W.skip ?_ | refine W.exit ?_ | refine W.ret ?_ | refine Post.block_exit ?_ | refine Post.block_other rfl ?_ | refine Post.then_exit ?_ | refine Post.then_ret ?_ | refine Post.block_ret ?_ | refine Post.block_normal ?_ | refine WL.lenS (tyS rfl) rfl rfl ?_ | refine WL.lenStr und9 rfl rfl ?_ | refine WL.fieldAddr (tyF rfl) rfl rfl ?_ | refine WL.not rfl rfl ?_ | refine WL.pick_t rfl rfl rfl ?_ | refine WL.pick_f rfl rfl rfl ?_ | refine WL.want rfl rfl ?_ | refine WL.skip rfl rfl rfl rfl ?_ | refine WL.extract rfl rfl rfl ?_ | refine WL.addI rfl rfl (by omega) rfl ?_ | refine WL.subI rfl rfl (by omega) rfl ?_ | refine WL.indexS (tyS rfl) rfl rfl (by omega) rfl ?_ | refine WL.indexA (tyR rfl) rfl rfl (by omega) rfl ?_ | (first | refine WL.lss_t rfl rfl (by omega) rfl ?_ | refine WL.lss_f rfl rfl (by omega) rfl ?_ | refine WL.gtr_t rfl rfl (by omega) rfl ?_ | refine WL.gtr_f rfl rfl (by omega) rfl ?_ | refine WL.eqI_t rfl rfl (by omega) rfl ?_ | refine WL.eqI_f rfl rfl (by omega) rfl ?_ | refine WL.neqI_t rfl rfl (by omega) rfl ?_ | refine WL.neqI_f rfl rfl (by omega) rfl ?_ | refine WL.leq_t rfl rfl (by omega) rfl ?_ | refine WL.leq_f rfl rfl (by omega) rfl ?_ | refine WL.geq_t rfl rfl (by omega) rfl ?_ | refine WL.geq_f rfl rfl (by omega) rfl ?_))
  refine WL.load (o' := 2) (tyP rfl) rfl (fun _ e => e) (hr13.cell rfl) (by first | omega | (simp; done) | (simp; omega)) rfl ?_
  repeat (first | refine WL.move rfl rfl ?_ | refine WL.assign rfl rfl ?_ | refine W.seq ?_ | refine W.region ?_ | refine WL.nil ?_ | refine Post.next ?_ | refine Post.tail ?_ | refine W.cond_t rfl ?_ | refine W.cond_f rfl ?_ | refine W.block ?_ | refine W.skip ?_ | refine W.exit ?_ | refine W.ret ?_ | refine Post.block_exit ?_ | refine Post.block_other rfl ?_ | refine Post.then_exit ?_ | refine Post.then_ret ?_ | refine Post.block_ret ?_ | refine Post.block_normal ?_ | refine WL.lenS (tyS rfl) rfl rfl ?_ | refine WL.lenStr und9 rfl rfl ?_ | refine WL.fieldAddr (tyF rfl) rfl rfl ?_ | refine WL.not rfl rfl ?_ | refine WL.pick_t rfl rfl rfl ?_ | refine WL.pick_f rfl rfl rfl ?_ | refine WL.want rfl rfl ?_ | refine WL.skip rfl rfl rfl rfl ?_ | refine WL.extract rfl rfl rfl ?_ | refine WL.addI rfl rfl (by omega) rfl ?_ | refine WL.subI rfl rfl (by omega) rfl ?_ | refine WL.indexS (tyS rfl) rfl rfl (by omega) rfl ?_ | refine WL.indexA (tyR rfl) rfl rfl (by omega) rfl ?_ | (first | refine WL.lss_t rfl rfl (by omega) rfl ?_ | refine WL.lss_f rfl rfl (by omega) rfl ?_ | refine WL.gtr_t rfl rfl (by omega) rfl ?_ | refine WL.gtr_f rfl rfl (by omega) rfl ?_ | refine WL.eqI_t rfl rfl (by omega) rfl ?_ | refine WL.eqI_f rfl rfl (by omega) rfl ?_ | refine WL.neqI_t rfl rfl (by omega) rfl ?_ | refine WL.neqI_f rfl rfl (by omega) rfl ?_ | refine WL.leq_t rfl rfl (by omega) rfl ?_ | refine WL.leq_f rfl rfl (by omega) rfl ?_ | refine WL.geq_t rfl rfl (by omega) rfl ?_ | refine WL.geq_f rfl rfl (by omega) rfl ?_))
  exact Post.ret1 rfl rfl ⟨rfl, U12.trans hu13⟩
end Go.Lx
